import JvmDerived
import JvmDerived.Pilot.@@N@@Statement
import JvmDerived.Pilot.@@N@@Code
set_option linter.unusedVariables false
set_option linter.unusedSimpArgs false
namespace Jvm.OwnKit
open Sem ClassFile Op Lib Jvm.Stand Jvm.Free Jvm.LawKit Jvm.RoadKit
section Own
variable {p : Program} {l : Launch} {e : Env} {R : Room} {s s0 : State} {m : MethodId} {args : Array Value} {below : List Frame} {meth : Method} {c : Code} {T : State} {locs : List Loc} {cells slots : Nat} {Z : State} {a0 : Array Value} {h : Heap}
/-- a walk comes to its return; Q says what it leaves; En is the frame's word -/
def Done (En : State → Outcome → State → List Loc → Nat → Nat → Prop) (p : Program) (e : Env) (below : List Frame) (s : State) (R : Room) (Q : Option Value → Heap → Vm → List Loc → Prop) (U : State) : Prop :=
  ∃ s₂ o, Steps p.tables e below U s₂ ∧ s₂.status = .running ∧ Ended s₂ below o ∧ ∃ v L, o = .returned v ∧ Q v s₂.heap s₂.vm L ∧ En s o s₂ L R.cells R.slots
variable {En : State → Outcome → State → List Loc → Nat → Nat → Prop} {Q : Option Value → Heap → Vm → List Loc → Prop} {U U' : State}
theorem Done.step (k : ∀ t, Steps p.tables e below U' t → Steps p.tables e below U t) (h : Done En p e below s R Q U') : Done En p e below s R Q U := by
  obtain ⟨s₂, o, h1, r⟩ := h
  exact ⟨s₂, o, k _ h1, r⟩
theorem Done.go (k : Steps p.tables e below U U') (h : Done En p e below s R Q U') : Done En p e below s R Q U := by
  obtain ⟨s₂, o, h1, r⟩ := h
  exact ⟨s₂, o, k.trans h1, r⟩
/-- the method may be left here -/
def Leaves (En : State → Outcome → State → List Loc → Nat → Nat → Prop) (e : Env) (below : List Frame) (s : State) (m : MethodId) (meth : Method) (T : State) (locs : List Loc) (R : Room) : Prop :=
  ∀ v : Option Value, (meth.sig.returnType = none → v = none) → ∃ fs, (∀ (f : JFrame) (acts : List Action), f.method = m → f.locked = none → f.entered = [] → (doReturn e (T.setTop f) acts v).1 = T.setFrames fs) ∧
    (T.setFrames fs).status = .running ∧ Ended (T.setFrames fs) below (.returned v) ∧ En s (.returned v) (T.setFrames fs) locs R.cells R.slots
theorem leavesF (X : Stand p l e R s m args below meth c T locs cells slots) (hlk : meth.locks = false) (hc : cells ≤ R.cells) (hs : slots ≤ R.slots) : Leaves FrameEnd e below s m meth T locs R := by
  intro v hv
  obtain ⟨fs, hr, hrun, hended, hW, hsame⟩ := X.leave hv hlk
  exact ⟨fs, hr, hrun, hended, ⟨_, rfl⟩, hW, hsame.mono hc hs⟩
theorem leavesW {vm0 : Vm} (X : Stand p l e R (s.setVm vm0) m args below meth c T locs cells slots) {n : Nat} (hS : s.Since vm0 n) (hn : n ≤ T.heap.size) (hlk : meth.locks = false) (hc : cells ≤ R.cells) (hs : slots ≤ R.slots) : Leaves ReturnedEndW e below s m meth T locs R := by
  intro v hv
  obtain ⟨fs, hr, hrun, hended, h1, h2, h3, h4⟩ := X.leaveW hS hn hv hlk
  exact ⟨fs, hr, hrun, hended, h1, h2, h3, h4.mono hc hs⟩
theorem Done.retI (Lv : Leaves En e below s0 m meth T locs R) (X : Stand p l e R s m args below meth c T locs cells slots) (hx : p.tables.exec = Jvm.exec) {pc : Nat} {Ls : Array Slot} {z : Int32} {rest : List Value} (hret : meth.sig.returnType = some .int) (hd : decode c.code pc = .ok (.ireturn, 1))
    (hq : Q (some (.int z)) T.heap T.vm locs) : Done En p e below s0 R Q (T.setTop (mkF m pc Ls (.int z :: rest))) := by
  obtain ⟨fs, hr, hrun, hended, hE⟩ := Lv (some (.int z)) (fun h => by rw [hret] at h; cases h)
  exact ⟨_, _, retOut X hx hret rfl (Or.inl ⟨rfl, Or.inl rfl, z, rfl⟩) hd hr, hrun, hended, _, _, rfl, hq, hE⟩
theorem Done.retJ (Lv : Leaves En e below s0 m meth T locs R) (X : Stand p l e R s m args below meth c T locs cells slots) (hx : p.tables.exec = Jvm.exec) {pc : Nat} {Ls : Array Slot} {z : Int64} {rest : List Value} (hret : meth.sig.returnType = some .long) (hd : decode c.code pc = .ok (.lreturn, 1))
    (hq : Q (some (.long z)) T.heap T.vm locs) : Done En p e below s0 R Q (T.setTop (mkF m pc Ls (.long z :: rest))) := by
  obtain ⟨fs, hr, hrun, hended, hE⟩ := Lv (some (.long z)) (fun h => by rw [hret] at h; cases h)
  exact ⟨_, _, retOut X hx hret rfl (Or.inr (Or.inl ⟨rfl, rfl, z, rfl⟩)) hd hr, hrun, hended, _, _, rfl, hq, hE⟩
theorem Done.retD (Lv : Leaves En e below s0 m meth T locs R) (X : Stand p l e R s m args below meth c T locs cells slots) (hx : p.tables.exec = Jvm.exec) {pc : Nat} {Ls : Array Slot} {z : UInt64} {rest : List Value} (hret : meth.sig.returnType = some .double) (hd : decode c.code pc = .ok (.dreturn, 1))
    (hq : Q (some (.double z)) T.heap T.vm locs) : Done En p e below s0 R Q (T.setTop (mkF m pc Ls (.double z :: rest))) := by
  obtain ⟨fs, hr, hrun, hended, hE⟩ := Lv (some (.double z)) (fun h => by rw [hret] at h; cases h)
  exact ⟨_, _, retOut X hx hret rfl (Or.inr (Or.inr (Or.inl ⟨rfl, rfl, z, rfl⟩))) hd hr, hrun, hended, _, _, rfl, hq, hE⟩
theorem Done.retA (Lv : Leaves En e below s0 m meth T locs R) (X : Stand p l e R s m args below meth c T locs cells slots) (hx : p.tables.exec = Jvm.exec) {pc : Nat} {Ls : Array Slot} {w : Value} {t : FieldType} {rest : List Value} (hret : meth.sig.returnType = some t) (ht : t.isReference = true) (hw : w.isRef = true) (hd : decode c.code pc = .ok (.areturn, 1))
    (hq : Q (some w) T.heap T.vm locs) : Done En p e below s0 R Q (T.setTop (mkF m pc Ls (w :: rest))) := by
  obtain ⟨fs, hr, hrun, hended, hE⟩ := Lv (some w) (fun h => by rw [hret] at h; cases h)
  have hn : narrow t w = w := by rcases ref_cases hw with rfl | ⟨a, rfl⟩ <;> cases t <;> rfl
  exact ⟨_, _, retOut X hx hret hn (Or.inr (Or.inr (Or.inr (Or.inr ⟨rfl, ht, hw⟩)))) hd hr, hrun, hended, _, _, rfl, hq, hE⟩
theorem Done.retN (Lv : Leaves En e below s0 m meth T locs R) (X : Stand p l e R s m args below meth c T locs cells slots) (hx : p.tables.exec = Jvm.exec) {pc : Nat} {Ls : Array Slot} {z : Int32} {t : FieldType} {rest : List Value} (hret : meth.sig.returnType = some t) (ht : t = .boolean ∨ t = .byte ∨ t = .char ∨ t = .short) (hd : decode c.code pc = .ok (.ireturn, 1))
    (hq : Q (some (.int (nar t z))) T.heap T.vm locs) : Done En p e below s0 R Q (T.setTop (mkF m pc Ls (.int z :: rest))) := by
  obtain ⟨fs, hr, hrun, hended, hE⟩ := Lv (some (.int (nar t z))) (fun h => by rw [hret] at h; cases h)
  exact ⟨_, _, Jvm.RoadKit.retN X hx hret ht hd hr, hrun, hended, _, _, rfl, hq, hE⟩
theorem Done.retV (Lv : Leaves En e below s0 m meth T locs R) (X : Stand p l e R s m args below meth c T locs cells slots) (hx : p.tables.exec = Jvm.exec) {pc : Nat} {Ls : Array Slot} (hret : meth.sig.returnType = none) (hd : decode c.code pc = .ok (.return_, 1))
    (hq : Q none T.heap T.vm locs) : Done En p e below s0 R Q (T.setTop (mkF m pc Ls [])) := by
  obtain ⟨fs, hr, hrun, hended, hE⟩ := Lv none (fun _ => rfl)
  exact ⟨_, _, X.returnOut hx hret hd hr, hrun, hended, _, _, rfl, hq, hE⟩
/-- a body's contract: from the arguments as' and the heap h0 it returns, and Q holds; PV is asked of the tables -/
def Ctr (En : State → Outcome → State → List Loc → Nat → Nat → Prop) (l : Launch) (Z : State) (y : MethodName) (code : ByteArray) (ml : Nat) (rt : Option FieldType) (ws : List Jvm.Cond) (rm : Room) (as' : Array Value) (h0 : Heap) (PV : Vm → Prop) (Q : Option Value → Heap → Vm → List Loc → Prop) : Prop :=
  MetFree l y (head1 (Jvm.Cond.code y code ml rt :: ws) rm) (fun a U => a = as' ∧ Z.Warmed39 U.vm ∧ U.heap = h0 ∧ PV U.vm) (fun _ _ _ _ _ => True) (fun _ U o U' => ∃ v L, o = .returned v ∧ Q v U'.heap U'.vm L ∧ En U o U' L rm.cells rm.slots)
abbrev TrueV : Vm → Prop := fun _ => True
theorem Ctr.intro {y : MethodName} {code : ByteArray} {ml : Nat} {rt : Option FieldType} {ws : List Jvm.Cond} {rm : Room} {as' : Array Value} {h0 : Heap} {PV : Vm → Prop} {Ls : Array Slot} (hpl : plainFor y = true) (hf : ∀ m, entryFrame m as' ml = mkF m 0 Ls [])
    (body : ∀ (p : Program) (e : Env) (s : State) (m : MethodId) (below : List Frame) (meth : Method) (c : Code) (T : State), p.tables.exec = Jvm.exec → c.code = code → c.maxLocals = ml → s.vm.findClass y.cls = some m.cls → meth.name = y.name → meth.sig.returnType = rt → meth.locks = false → Z.Warmed39 s.vm → PV s.vm → s.heap = h0 → T.heap = h0 →
      Stand p l e rm s m as' below meth c T [] 0 0 → Done En p e below s rm Q (T.setTop (mkF m 0 Ls []))) : Ctr En l Z y code ml rt ws rm as' h0 PV Q := by
  refine MetFree.of_bodySF hpl hisR ?_
  intro p e s m args below meth c s₁ Bd hml0 hP hK
  obtain ⟨rfl, hZ, hh, hV⟩ := hP
  have X0 : Stand p l e rm s m args below meth c s₁ [] 0 0 := Stand.of_body Bd
  have e0 : s₁.heap = h0 := by rw [← hh, Bd.state]; rfl
  obtain ⟨s₂, o, h1, r⟩ := body p e s m below meth c s₁ Bd.exec Bd.bytes hml0 (findClass_of_methodNamed Bd.named) (name_of_methodNamed Bd.named Bd.method).1 Bd.returns Bd.notSynchronized hZ hV hh e0 X0
  exact ⟨s₂, o, castTop (hf m) h1, r⟩
variable {Qc : Option Value → Heap → Vm → List Loc → Prop}
theorem Ctr.back {y : MethodName} {bytes : ByteArray} {maxL : Nat} {ret : Option FieldType} {rm : Room} {len W : Nat} {as' : Array Value} {PV : Vm → Prop} (hM : Ctr FrameEnd l Z y bytes maxL ret [] rm as' h PV Qc)
    (hZ : Z.Warmed39 s.vm) (hV : ∀ vm', s.WarmedH vm' → PV vm') (wc : (Jvm.Cond.code y bytes maxL ret).before a0 Z = true) (wz : (Jvm.Cond.initialized y.cls).before a0 Z = true) (hf : rm.frames + 1 ≤ R.frames) (hl : W + (maxL + 11) + rm.locals ≤ R.locals) :
    Back l R p e below s args y len W (fun A a => a = as' ∧ A.U.heap = h ∧ A.cells + rm.cells ≤ R.cells ∧ A.slots + rm.slots ≤ R.slots)
      (fun A _ v B => ∃ L, Qc v B.U.heap B.U.vm L ∧ B.locs = A.locs ++ L ∧ B.cells = A.cells + rm.cells ∧ B.slots = A.slots + rm.slots) :=
  Back.of_free (bytes := bytes) (maxL := maxL) (ret := ret) (E := fun _ _ o t L k n => k = rm.cells ∧ n = rm.slots ∧ ∃ v, o = .returned v ∧ Qc v t.heap t.vm L) hM hf hl
    (fun m meth c A a Y hp => have hU : Z.Warmed39 A.U.vm := wtrans hZ Y.warmed
      ⟨by show (Cond.and _ .tt).before a A.U = true; rw [Cond.before_and, mv hU wc]; rfl, mv hU wc, mv hU wz, hp.2.2.1, hp.2.2.2⟩)
    (fun m meth c A a g mk Y hp => ⟨hp.1, wtrans hZ Y.warmed, hp.2.1, hV _ Y.warmed⟩) (fun _ _ _ _ _ _ _ _ _ => trivial)
    (fun _ _ _ _ ⟨v, L, h1, h2, h3⟩ => ⟨L, _, _, h3, rfl, rfl, v, h1, h2⟩)
    (fun m meth c A a g mk v t L k n Y hp _ _ ⟨e1, e2, v', e3, e4⟩ => by cases e3; subst e1 e2; exact ⟨L, e4, rfl, rfl, rfl⟩)
theorem Ctr.backW {y : MethodName} {bytes : ByteArray} {maxL : Nat} {ret : Option FieldType} {rm : Room} {len W : Nat} {as' : Array Value} {PV : Vm → Prop} (hM : Ctr ReturnedEndW l Z y bytes maxL ret [] rm as' h PV Qc)
    (hZ : Z.Warmed39 s.vm) (hV : ∀ vm', s.WarmedH vm' → PV vm') (wc : (Jvm.Cond.code y bytes maxL ret).before a0 Z = true) (wz : (Jvm.Cond.initialized y.cls).before a0 Z = true) (hf : rm.frames + 1 ≤ R.frames) (hl : W + (maxL + 11) + rm.locals ≤ R.locals) :
    BackS l R p e below s args y len W (fun A a => a = as' ∧ A.U.heap = h ∧ A.cells + rm.cells ≤ R.cells ∧ A.slots + rm.slots ≤ R.slots)
      (fun A _ v B => ∃ L, Qc v B.U.heap B.U.vm L ∧ B.locs = A.locs ++ L ∧ B.cells = A.cells + rm.cells ∧ B.slots = A.slots + rm.slots) :=
  BackS.of_freeW (bytes := bytes) (maxL := maxL) (ret := ret) (E := fun _ _ o t L k n => k = rm.cells ∧ n = rm.slots ∧ ∃ v, o = .returned v ∧ Qc v t.heap t.vm L) hM hf hl
    (fun m meth c A a Y hp => have hU : Z.Warmed39 A.U.vm := wtrans hZ Y.warmed
      ⟨by show (Cond.and _ .tt).before a A.U = true; rw [Cond.before_and, mv hU wc]; rfl, mv hU wc, mv hU wz, hp.2.2.1, hp.2.2.2⟩)
    (fun m meth c A a g mk Y hp => ⟨hp.1, wtrans hZ Y.warmed, hp.2.1, hV _ Y.warmed⟩) (fun _ _ _ _ _ _ _ _ _ => trivial)
    (fun _ _ _ _ ⟨v, L, h1, h2, h3⟩ => ⟨L, _, _, h3, rfl, rfl, v, h1, h2⟩)
    (fun m meth c A a g mk v t L k n Y hp _ _ ⟨e1, e2, v', e3, e4⟩ => by cases e3; subst e1 e2; exact ⟨L, e4, rfl, rfl, rfl⟩)
theorem wAt {ws : List Jvm.Cond} (hw : ∀ d ∈ ws, d.before a0 Z = true) (k : Nat) {d : Jvm.Cond} (q : ws[k]? = some d) : d.before a0 Z = true := hw _ (List.mem_of_getElem? q)
theorem int_eq_v {first s : State} {o : Option Outcome} {idx : List Nat} {t : Term} {k : Int32} (q : (Jvm.Cond.eq t (.int k)).value args first o s idx = some true) : t.eval args first o idx s = some (.int k) := by
  cases ht : t.eval args first o idx s with
  | none => simp [Cond.value, ht] at q
  | some x => cases x <;> simp [Cond.value, Term.eval, ht] at q ⊢; exact q
/-- a truth value as the JVM returns it -/
def bP (P : Prop) [Decidable P] : Int32 := if P then 1 else 0
theorem bP_t {P : Prop} [Decidable P] (q : P) : bP P = 1 := if_pos q
theorem bP_f {P : Prop} [Decidable P] (q : ¬ P) : bP P = 0 := if_neg q
/-- what a law leaves: it returns 1, and wrote in new cells alone -/
def LawQ (n0 : Nat) : Option Value → Heap → Vm → List Loc → Prop := fun v _ _ L => v = some (.int 1) ∧ Fr n0 L
/-- what a body leaves that writes and makes nothing -/
def PureQ (r : Option Value) (h0 : Heap) : Option Value → Heap → Vm → List Loc → Prop := fun v h _ L => v = r ∧ h = h0 ∧ L = []
/-- what a constructor leaves of which no more is wanted: it wrote in ws and in new cells alone -/
def QW (n0 : Nat) (h0 : Heap) (ws : List Addr) : Option Value → Heap → Vm → List Loc → Prop := fun v h _ L => v = none ∧ Fr n0 L ∧ Keep h0 h ws
section Calls
variable {own C : String} {index : Nat} {y z : MethodName} {bytes : ByteArray} {maxL : Nat} {ret : Option FieldType} {rm : Room} {as' : Array Value} {PV : Vm → Prop} {g : JFrame} {r : Option Value}
theorem Done.callS (X : Stand p l e R s m args below meth c T locs cells slots) (hx : p.tables.exec = Jvm.exec) (hZ : Z.Warmed39 s.vm) (hown : s.vm.findClass own = some m.cls)
    (w1 : (Jvm.Cond.methodLink own index y).before a0 Z = true) (w2 : (Jvm.Cond.static y).before a0 Z = true) (w3 : (Jvm.Cond.initialized y.cls).before a0 Z = true) (w4 : (Jvm.Cond.code y bytes maxL ret).before a0 Z = true)
    (hy : y.cls ≠ "java/lang/invoke/MethodHandle" ∧ y.cls ≠ "java/lang/invoke/VarHandle") (hM : Ctr FrameEnd l Z y bytes maxL ret [] rm as' h PV Qc) (hV : ∀ vm', s.WarmedH vm' → PV vm') (eT : T.heap = h)
    (hg : g.method = m) (hsize : g.locals.size = c.maxLocals) (argsL rest : List Value) (W : Nat) (hlen : ∀ sig, parseMethodDescriptor y.desc = some sig → argsL.length = sig.parameters.length)
    (hstack : g.stack = argsL.reverse ++ rest) (has : argsL.toArray = as') (hW : 2 * g.monitorRoom + (rest.map fun v => v.category).sum ≤ W) (hdg : decode c.code g.pc = .ok (.invokestatic index, 3))
    (hf : rm.frames + 1 ≤ R.frames) (hl : W + (maxL + 11) + rm.locals ≤ R.locals) (hc : cells + rm.cells ≤ R.cells) (hs : slots + rm.slots ≤ R.slots)
    (k : ∀ (T' : State) (v : Option Value) (L : List Loc), Stand p l e R s m args below meth c T' (locs ++ L) (cells + rm.cells) (slots + rm.slots) → Qc v T'.heap T'.vm L → Done En p e below s0 R Q (T'.setTop { g with pc := g.pc + 3, stack := v.toList ++ rest })) :
    Done En p e below s0 R Q (T.setTop g) := by
  subst has
  obtain ⟨v, vm₁, ⟨T', L', k', n'⟩, -, X', ⟨L, hq, e1, e2, e3⟩, st⟩ := Jvm.LawKit.callS X hx (y := y) hown (mvT hZ w1) (mvT hZ w2) (mvT hZ w3) (mvT hZ w4) hy (hM.back (W := W) hZ hV w4 w3 hf hl) hg hsize (argsL := argsL) (rest := rest) hlen hstack hW hdg (fun _ _ => ⟨rfl, eT, hc, hs⟩)
  dsimp only [Pt.U, Pt.locs, Pt.cells, Pt.slots] at X' e1 e2 e3 st hq
  subst e1 e2 e3
  exact Done.step st (k _ _ _ X' hq)
theorem Done.callSP (X : Stand p l e R s m args below meth c T locs cells slots) (hx : p.tables.exec = Jvm.exec) (hZ : Z.Warmed39 s.vm) (hown : s.vm.findClass own = some m.cls)
    (w1 : (Jvm.Cond.methodLink own index y).before a0 Z = true) (w2 : (Jvm.Cond.static y).before a0 Z = true) (w3 : (Jvm.Cond.initialized y.cls).before a0 Z = true) (w4 : (Jvm.Cond.code y bytes maxL ret).before a0 Z = true)
    (hy : y.cls ≠ "java/lang/invoke/MethodHandle" ∧ y.cls ≠ "java/lang/invoke/VarHandle") (hM : Ctr FrameEnd l Z y bytes maxL ret [] rm as' h TrueV (PureQ r h)) (eT : T.heap = h)
    (hg : g.method = m) (hsize : g.locals.size = c.maxLocals) (argsL rest : List Value) (W : Nat) (hlen : ∀ sig, parseMethodDescriptor y.desc = some sig → argsL.length = sig.parameters.length)
    (hstack : g.stack = argsL.reverse ++ rest) (has : argsL.toArray = as') (hW : 2 * g.monitorRoom + (rest.map fun v => v.category).sum ≤ W) (hdg : decode c.code g.pc = .ok (.invokestatic index, 3))
    (hf : rm.frames + 1 ≤ R.frames) (hl : W + (maxL + 11) + rm.locals ≤ R.locals) (hc : cells ≤ R.cells) (hs : slots ≤ R.slots) (rc : rm.cells = 0) (rs : rm.slots = 0)
    (k : ∀ (T' : State), Stand p l e R s m args below meth c T' locs cells slots → T'.heap = h → Done En p e below s0 R Q (T'.setTop { g with pc := g.pc + 3, stack := r.toList ++ rest })) :
    Done En p e below s0 R Q (T.setTop g) := by
  refine Done.callS X hx hZ hown w1 w2 w3 w4 hy hM (fun _ _ => trivial) eT hg hsize argsL rest W hlen hstack has hW hdg hf hl (by rw [rc]; exact hc) (by rw [rs]; exact hs) ?_
  intro T' v L X' q
  obtain ⟨rfl, e1, rfl⟩ := q
  rw [List.append_nil, rc, rs] at X'
  exact k T' X' e1
theorem Done.callI (X : Stand p l e R s m args below meth c T locs cells slots) (hx : p.tables.exec = Jvm.exec) (hZ : Z.Warmed39 s.vm) (hy1 : y.name = "<init>") (hown : s.vm.findClass own = some m.cls)
    (w1 : (Jvm.Cond.methodLink own index y).before a0 Z = true) (w2 : (Jvm.Cond.instanceMethod y).before a0 Z = true) (w3 : (Jvm.Cond.initialized y.cls).before a0 Z = true) (w4 : (Jvm.Cond.code y bytes maxL none).before a0 Z = true)
    (hy : y.cls ≠ "java/lang/invoke/MethodHandle" ∧ y.cls ≠ "java/lang/invoke/VarHandle") (hM : Ctr FrameEnd l Z y bytes maxL none [] rm as' h PV Qc) (hV : ∀ vm', s.WarmedH vm' → PV vm') (eT : T.heap = h)
    (hg : g.method = m) (hsize : g.locals.size = c.maxLocals) (a : Addr) (argsL rest : List Value) (W : Nat) (hlen : ∀ sig, parseMethodDescriptor y.desc = some sig → argsL.length = sig.parameters.length)
    (hstack : g.stack = argsL.reverse ++ .ref a :: rest) (has : (Value.ref a :: argsL).toArray = as') (hW : 2 * g.monitorRoom + (rest.map fun v => v.category).sum ≤ W) (hdg : decode c.code g.pc = .ok (.invokespecial index, 3))
    (hf : rm.frames + 1 ≤ R.frames) (hl : W + (maxL + 11) + rm.locals ≤ R.locals) (hc : cells + rm.cells ≤ R.cells) (hs : slots + rm.slots ≤ R.slots)
    (k : ∀ (T' : State) (v : Option Value) (L : List Loc), Stand p l e R s m args below meth c T' (locs ++ L) (cells + rm.cells) (slots + rm.slots) → Qc v T'.heap T'.vm L → Done En p e below s0 R Q (T'.setTop { g with pc := g.pc + 3, stack := v.toList ++ rest })) :
    Done En p e below s0 R Q (T.setTop g) := by
  subst has
  obtain ⟨v, vm₁, ⟨T', L', k', n'⟩, -, X', ⟨L, hq, e1, e2, e3⟩, st⟩ := X.specialBack hx (y := y) hy1 hown (mvT hZ w1) (mvT hZ w2) (mvT hZ w4) hy (hM.back (W := W) hZ hV w4 w3 hf hl) hg hsize (Steps.refl _) (a := a) (argsL := argsL) (rest := rest) hlen hstack hW hdg (fun _ _ => ⟨rfl, eT, hc, hs⟩)
  dsimp only [Pt.U, Pt.locs, Pt.cells, Pt.slots] at X' e1 e2 e3 st hq
  subst e1 e2 e3
  exact Done.go st (k _ _ _ X' hq)
theorem Done.callV (X : Stand p l e R s m args below meth c T locs cells slots) (hx : p.tables.exec = Jvm.exec) (hZ : Z.Warmed39 s.vm) (hown : s.vm.findClass own = some m.cls)
    (w1 : (Jvm.Cond.methodLink own index y).before a0 Z = true) (w2 : (Jvm.Cond.declares y).before a0 Z = true) (hnf : NotFace s y) (w5 : (Jvm.Cond.selects C y z).before a0 Z = true) (w6 : (Jvm.Cond.instanceMethod z).before a0 Z = true)
    (w3 : (Jvm.Cond.initialized z.cls).before a0 Z = true) (w4 : (Jvm.Cond.code z bytes maxL ret).before a0 Z = true)
    (hy : y.cls ≠ "java/lang/invoke/MethodHandle" ∧ y.cls ≠ "java/lang/invoke/VarHandle") (hM : Ctr FrameEnd l Z z bytes maxL ret [] rm as' h PV Qc) (hV : ∀ vm', s.WarmedH vm' → PV vm') (eT : T.heap = h) {b : Addr} (E : Exa Z h b C)
    (hg : g.method = m) (hsize : g.locals.size = c.maxLocals) (argsL rest : List Value) (W : Nat) (hlen : ∀ sig, parseMethodDescriptor y.desc = some sig → argsL.length = sig.parameters.length)
    (hstack : g.stack = argsL.reverse ++ .ref b :: rest) (has : (Value.ref b :: argsL).toArray = as') (hW : 2 * g.monitorRoom + (rest.map fun v => v.category).sum ≤ W) (hdg : decode c.code g.pc = .ok (.invokevirtual index, 3))
    (hf : rm.frames + 1 ≤ R.frames) (hl : W + (maxL + 11) + rm.locals ≤ R.locals) (hc : cells + rm.cells ≤ R.cells) (hs : slots + rm.slots ≤ R.slots)
    (k : ∀ (T' : State) (v : Option Value) (L : List Loc), Stand p l e R s m args below meth c T' (locs ++ L) (cells + rm.cells) (slots + rm.slots) → Qc v T'.heap T'.vm L → Done En p e below s0 R Q (T'.setTop { g with pc := g.pc + 3, stack := v.toList ++ rest })) :
    Done En p e below s0 R Q (T.setTop g) := by
  subst has
  obtain ⟨cq, kq, qa, qb, qc⟩ := isOf (T := T) hZ eT E
  obtain ⟨v, vm₁, ⟨T', L', k', n'⟩, -, X', ⟨L, hq, e1, e2, e3⟩, st⟩ := X.virtualBack hx (y := y) (z := z) hown (mvT hZ w1) (mvT hZ w2) hnf (mvT hZ w5) (mvT hZ w6) hy (hM.back (W := W) hZ hV w4 w3 hf hl) qa qc hg hsize (Steps.refl _) (argsL := argsL) (rest := rest) hlen hstack hW hdg (fun _ _ => ⟨rfl, eT, hc, hs⟩)
  dsimp only [Pt.U, Pt.locs, Pt.cells, Pt.slots] at X' e1 e2 e3 st hq
  subst e1 e2 e3
  exact Done.go st (k _ _ _ X' hq)
theorem Done.callVP (X : Stand p l e R s m args below meth c T locs cells slots) (hx : p.tables.exec = Jvm.exec) (hZ : Z.Warmed39 s.vm) (hown : s.vm.findClass own = some m.cls)
    (w1 : (Jvm.Cond.methodLink own index y).before a0 Z = true) (w2 : (Jvm.Cond.declares y).before a0 Z = true) (hnf : NotFace s y) (w5 : (Jvm.Cond.selects C y z).before a0 Z = true) (w6 : (Jvm.Cond.instanceMethod z).before a0 Z = true)
    (w3 : (Jvm.Cond.initialized z.cls).before a0 Z = true) (w4 : (Jvm.Cond.code z bytes maxL ret).before a0 Z = true)
    (hy : y.cls ≠ "java/lang/invoke/MethodHandle" ∧ y.cls ≠ "java/lang/invoke/VarHandle") (hM : Ctr FrameEnd l Z z bytes maxL ret [] rm as' h TrueV (PureQ r h)) (eT : T.heap = h) {b : Addr} (E : Exa Z h b C)
    (hg : g.method = m) (hsize : g.locals.size = c.maxLocals) (argsL rest : List Value) (W : Nat) (hlen : ∀ sig, parseMethodDescriptor y.desc = some sig → argsL.length = sig.parameters.length)
    (hstack : g.stack = argsL.reverse ++ .ref b :: rest) (has : (Value.ref b :: argsL).toArray = as') (hW : 2 * g.monitorRoom + (rest.map fun v => v.category).sum ≤ W) (hdg : decode c.code g.pc = .ok (.invokevirtual index, 3))
    (hf : rm.frames + 1 ≤ R.frames) (hl : W + (maxL + 11) + rm.locals ≤ R.locals) (hc : cells ≤ R.cells) (hs : slots ≤ R.slots) (rc : rm.cells = 0) (rs : rm.slots = 0)
    (k : ∀ (T' : State), Stand p l e R s m args below meth c T' locs cells slots → T'.heap = h → Done En p e below s0 R Q (T'.setTop { g with pc := g.pc + 3, stack := r.toList ++ rest })) :
    Done En p e below s0 R Q (T.setTop g) := by
  refine Done.callV X hx hZ hown w1 w2 hnf w5 w6 w3 w4 hy hM (fun _ _ => trivial) eT E hg hsize argsL rest W hlen hstack has hW hdg hf hl (by rw [rc]; exact hc) (by rw [rs]; exact hs) ?_
  intro T' v L X' q
  obtain ⟨rfl, e1, rfl⟩ := q
  rw [List.append_nil, rc, rs] at X'
  exact k T' X' e1
/-- calls that a law of the library or of a paste pays -/
theorem Done.callIB {nc ns W : Nat} {Qh : Option Value → Heap → List Loc → Prop} (X : Stand p l e R s m args below meth c T locs cells slots) (hx : p.tables.exec = Jvm.exec) (hZ : Z.Warmed39 s.vm) (hy1 : y.name = "<init>") (hown : s.vm.findClass own = some m.cls)
    (w1 : (Jvm.Cond.methodLink own index y).before a0 Z = true) (w2 : (Jvm.Cond.instanceMethod y).before a0 Z = true) (w4 : (Jvm.Cond.code y bytes maxL none).before a0 Z = true)
    (hy : y.cls ≠ "java/lang/invoke/MethodHandle" ∧ y.cls ≠ "java/lang/invoke/VarHandle")
    (hK : Back l R p e below s args y 3 W (fun A a => a = as' ∧ A.U.heap = h ∧ A.cells + nc ≤ R.cells ∧ A.slots + ns ≤ R.slots) (fun A _ v B => ∃ L, Qh v B.U.heap L ∧ B.locs = A.locs ++ L ∧ B.cells = A.cells + nc ∧ B.slots = A.slots + ns)) (eT : T.heap = h)
    (hg : g.method = m) (hsize : g.locals.size = c.maxLocals) (a : Addr) (argsL rest : List Value) (hlen : ∀ sig, parseMethodDescriptor y.desc = some sig → argsL.length = sig.parameters.length)
    (hstack : g.stack = argsL.reverse ++ .ref a :: rest) (has : (Value.ref a :: argsL).toArray = as') (hW : 2 * g.monitorRoom + (rest.map fun v => v.category).sum ≤ W) (hdg : decode c.code g.pc = .ok (.invokespecial index, 3))
    (hc : cells + nc ≤ R.cells) (hs : slots + ns ≤ R.slots)
    (k : ∀ (T' : State) (v : Option Value) (L : List Loc), Stand p l e R s m args below meth c T' (locs ++ L) (cells + nc) (slots + ns) → Qh v T'.heap L → Done En p e below s0 R Q (T'.setTop { g with pc := g.pc + 3, stack := v.toList ++ rest })) :
    Done En p e below s0 R Q (T.setTop g) := by
  subst has
  obtain ⟨v, vm₁, ⟨T', L', k', n'⟩, -, X', ⟨L, hq, e1, e2, e3⟩, st⟩ := X.specialBack hx (y := y) hy1 hown (mvT hZ w1) (mvT hZ w2) (mvT hZ w4) hy hK hg hsize (Steps.refl _) (a := a) (argsL := argsL) (rest := rest) hlen hstack hW hdg (fun _ _ => ⟨rfl, eT, hc, hs⟩)
  dsimp only [Pt.U, Pt.locs, Pt.cells, Pt.slots] at X' e1 e2 e3 st hq
  subst e1 e2 e3
  exact Done.go st (k _ _ _ X' hq)
theorem Done.callVB {nc ns W : Nat} {Qh : Option Value → Heap → List Loc → Prop} (X : Stand p l e R s m args below meth c T locs cells slots) (hx : p.tables.exec = Jvm.exec) (hZ : Z.Warmed39 s.vm) (hown : s.vm.findClass own = some m.cls)
    (w1 : (Jvm.Cond.methodLink own index y).before a0 Z = true) (w2 : (Jvm.Cond.declares y).before a0 Z = true) (hnf : NotFace s y) (w5 : (Jvm.Cond.selects C y z).before a0 Z = true) (w6 : (Jvm.Cond.instanceMethod z).before a0 Z = true)
    (hy : y.cls ≠ "java/lang/invoke/MethodHandle" ∧ y.cls ≠ "java/lang/invoke/VarHandle")
    (hK : Back l R p e below s args z 3 W (fun A a => a = as' ∧ A.U.heap = h ∧ A.cells + nc ≤ R.cells ∧ A.slots + ns ≤ R.slots) (fun A _ v B => ∃ L, Qh v B.U.heap L ∧ B.locs = A.locs ++ L ∧ B.cells = A.cells + nc ∧ B.slots = A.slots + ns)) (eT : T.heap = h) {b : Addr} (E : Exa Z h b C)
    (hg : g.method = m) (hsize : g.locals.size = c.maxLocals) (argsL rest : List Value) (hlen : ∀ sig, parseMethodDescriptor y.desc = some sig → argsL.length = sig.parameters.length)
    (hstack : g.stack = argsL.reverse ++ .ref b :: rest) (has : (Value.ref b :: argsL).toArray = as') (hW : 2 * g.monitorRoom + (rest.map fun v => v.category).sum ≤ W) (hdg : decode c.code g.pc = .ok (.invokevirtual index, 3))
    (hc : cells + nc ≤ R.cells) (hs : slots + ns ≤ R.slots)
    (k : ∀ (T' : State) (v : Option Value) (L : List Loc), Stand p l e R s m args below meth c T' (locs ++ L) (cells + nc) (slots + ns) → Qh v T'.heap L → Done En p e below s0 R Q (T'.setTop { g with pc := g.pc + 3, stack := v.toList ++ rest })) :
    Done En p e below s0 R Q (T.setTop g) := by
  subst has
  obtain ⟨cq, kq, qa, qb, qc⟩ := isOf (T := T) hZ eT E
  obtain ⟨v, vm₁, ⟨T', L', k', n'⟩, -, X', ⟨L, hq, e1, e2, e3⟩, st⟩ := X.virtualBack hx (y := y) (z := z) hown (mvT hZ w1) (mvT hZ w2) hnf (mvT hZ w5) (mvT hZ w6) hy hK qa qc hg hsize (Steps.refl _) (argsL := argsL) (rest := rest) hlen hstack hW hdg (fun _ _ => ⟨rfl, eT, hc, hs⟩)
  dsimp only [Pt.U, Pt.locs, Pt.cells, Pt.slots] at X' e1 e2 e3 st hq
  subst e1 e2 e3
  exact Done.go st (k _ _ _ X' hq)
/-- the three calls of a callee that may load literals -/
theorem Done.callSW {vm0 : Vm} {k0 : Nat} (X : Stand p l e R (s.setVm vm0) m args below meth c T locs cells slots) (hx : p.tables.exec = Jvm.exec) (hZ : Z.Warmed39 vm0) (hown : vm0.findClass own = some m.cls) (hS : s.Since vm0 k0) (hk : k0 ≤ h.size)
    (w1 : (Jvm.Cond.methodLink own index y).before a0 Z = true) (w2 : (Jvm.Cond.static y).before a0 Z = true) (w3 : (Jvm.Cond.initialized y.cls).before a0 Z = true) (w4 : (Jvm.Cond.code y bytes maxL ret).before a0 Z = true)
    (hy : y.cls ≠ "java/lang/invoke/MethodHandle" ∧ y.cls ≠ "java/lang/invoke/VarHandle") (hM : Ctr ReturnedEndW l Z y bytes maxL ret [] rm as' h PV Qc) (hV : ∀ vm', (s.setVm vm0).WarmedH vm' → PV vm') (eT : T.heap = h)
    (hg : g.method = m) (hsize : g.locals.size = c.maxLocals) (argsL rest : List Value) (W : Nat) (hlen : ∀ sig, parseMethodDescriptor y.desc = some sig → argsL.length = sig.parameters.length)
    (hstack : g.stack = argsL.reverse ++ rest) (has : argsL.toArray = as') (hW : 2 * g.monitorRoom + (rest.map fun v => v.category).sum ≤ W) (hdg : decode c.code g.pc = .ok (.invokestatic index, 3))
    (hf : rm.frames + 1 ≤ R.frames) (hl : W + (maxL + 11) + rm.locals ≤ R.locals) (hc : cells + rm.cells ≤ R.cells) (hs : slots + rm.slots ≤ R.slots)
    (k : ∀ (T' : State) (v : Option Value) (L : List Loc), Stand p l e R (s.setVm T'.vm) m args below meth c T' (locs ++ L) (cells + rm.cells) (slots + rm.slots) → s.Since T'.vm T'.heap.size → Z.Warmed39 T'.vm → T'.vm.findClass own = some m.cls → (s.setVm vm0).Warmed39 T'.vm → Qc v T'.heap T'.vm L →
      Done En p e below s0 R Q (T'.setTop { g with pc := g.pc + 3, stack := v.toList ++ rest })) :
    Done En p e below s0 R Q (T.setTop g) := by
  subst has eT
  obtain ⟨v, vm₁, ⟨T', L', k', n'⟩, hW1, X', hS', hgr, ⟨L, hq, e1, e2, e3⟩, st⟩ := callSS (s := s.setVm vm0) X hx (y := y) hown (mvT (s := s.setVm vm0) hZ w1) (mvT (s := s.setVm vm0) hZ w2) (mvT (s := s.setVm vm0) hZ w3) (mvT (s := s.setVm vm0) hZ w4) hy (hM.backW (s := s.setVm vm0) (W := W) hZ hV w4 w3 hf hl) hg hsize (argsL := argsL) (rest := rest) hlen hstack hW hdg (fun _ _ => ⟨rfl, rfl, hc, hs⟩)
  dsimp only [Pt.U, Pt.locs, Pt.cells, Pt.slots] at X' e1 e2 e3 st hq hS' hgr
  subst e1 e2 e3
  exact Done.go st (k T' v L X' (hS.trans hS' (Nat.le_trans hk hgr)) (State.Warmed39.trans (t := s.setVm vm0) hZ hS'.1) (by rw [hS'.1.alike.findClass]; exact hown) hS'.1 hq)
theorem Done.callIW {vm0 : Vm} {k0 : Nat} (X : Stand p l e R (s.setVm vm0) m args below meth c T locs cells slots) (hx : p.tables.exec = Jvm.exec) (hZ : Z.Warmed39 vm0) (hy1 : y.name = "<init>") (hown : vm0.findClass own = some m.cls) (hS : s.Since vm0 k0) (hk : k0 ≤ h.size)
    (w1 : (Jvm.Cond.methodLink own index y).before a0 Z = true) (w2 : (Jvm.Cond.instanceMethod y).before a0 Z = true) (w3 : (Jvm.Cond.initialized y.cls).before a0 Z = true) (w4 : (Jvm.Cond.code y bytes maxL none).before a0 Z = true)
    (hy : y.cls ≠ "java/lang/invoke/MethodHandle" ∧ y.cls ≠ "java/lang/invoke/VarHandle") (hM : Ctr ReturnedEndW l Z y bytes maxL none [] rm as' h PV Qc) (hV : ∀ vm', (s.setVm vm0).WarmedH vm' → PV vm') (eT : T.heap = h)
    (hg : g.method = m) (hsize : g.locals.size = c.maxLocals) (a : Addr) (argsL rest : List Value) (W : Nat) (hlen : ∀ sig, parseMethodDescriptor y.desc = some sig → argsL.length = sig.parameters.length)
    (hstack : g.stack = argsL.reverse ++ .ref a :: rest) (has : (Value.ref a :: argsL).toArray = as') (hW : 2 * g.monitorRoom + (rest.map fun v => v.category).sum ≤ W) (hdg : decode c.code g.pc = .ok (.invokespecial index, 3))
    (hf : rm.frames + 1 ≤ R.frames) (hl : W + (maxL + 11) + rm.locals ≤ R.locals) (hc : cells + rm.cells ≤ R.cells) (hs : slots + rm.slots ≤ R.slots)
    (k : ∀ (T' : State) (v : Option Value) (L : List Loc), Stand p l e R (s.setVm T'.vm) m args below meth c T' (locs ++ L) (cells + rm.cells) (slots + rm.slots) → s.Since T'.vm T'.heap.size → Z.Warmed39 T'.vm → T'.vm.findClass own = some m.cls → (s.setVm vm0).Warmed39 T'.vm → Qc v T'.heap T'.vm L →
      Done En p e below s0 R Q (T'.setTop { g with pc := g.pc + 3, stack := v.toList ++ rest })) :
    Done En p e below s0 R Q (T.setTop g) := by
  subst has eT
  obtain ⟨v, vm₁, ⟨T', L', k', n'⟩, hW1, X', hS', hgr, ⟨L, hq, e1, e2, e3⟩, st⟩ := specialBackS (s := s.setVm vm0) X hx (y := y) hy1 hown (mvT (s := s.setVm vm0) hZ w1) (mvT (s := s.setVm vm0) hZ w2) (mvT (s := s.setVm vm0) hZ w4) hy (hM.backW (s := s.setVm vm0) (W := W) hZ hV w4 w3 hf hl) hg hsize (Steps.refl _) (a := a) (argsL := argsL) (rest := rest) hlen hstack hW hdg (fun _ _ => ⟨rfl, rfl, hc, hs⟩)
  dsimp only [Pt.U, Pt.locs, Pt.cells, Pt.slots] at X' e1 e2 e3 st hq hS' hgr
  subst e1 e2 e3
  exact Done.go st (k T' v L X' (hS.trans hS' (Nat.le_trans hk hgr)) (State.Warmed39.trans (t := s.setVm vm0) hZ hS'.1) (by rw [hS'.1.alike.findClass]; exact hown) hS'.1 hq)
end Calls
end Own
end Jvm.OwnKit
@@BLOCK:NumsL.lean.txt@@
/- laws to paste: Road.backV, Road.eqW, Road.codOf (cut by pick.py; bodies as the Statement names them) -/
namespace Jvm.Pilot.@@N@@
namespace StrChars
open Jvm Sem ClassFile Op Lib Jvm.Stand Jvm.Free.XT Jvm.Free.ALB Jvm.Free.JM Jvm.Free
open Jvm.Lib.Cold (StaticIs)
/-- a char array whose places are chars -/
def Ch (a : Addr) (A : Cell) (U : State) : Prop := Arr .char a A U ∧ Typed .char A
theorem Ch.mv {a : Addr} {A : Cell} {U U' : State} (h : Ch a A U) (hal : U.vm.Alike U'.vm) (hh : U'.heap = U.heap) : Ch a A U' := ⟨h.1.mv hal hh, h.2⟩
theorem Ch.keep {a : Addr} {A : Cell} {U U' : State} (h : Ch a A U) (hal : U.vm.Alike U'.vm) (hk : U'.heap[a]? = some A) : Ch a A U' := ⟨h.1.keep hal hk, h.2⟩
/-- what place i of a char[]'s cell holds -/
def cv (A : Cell) (i : Nat) : Int32 := match A.slots[i]? with | some (.int x) => x | _ => 0
theorem Ch.get {a : Addr} {A : Cell} {U : State} (h : Ch a A U) {i : Nat} (hi : i < A.slots.size) : A.slots[i]? = some (.int (cv A i)) := by
  have e := Array.getElem?_eq_getElem hi
  have f := h.2 i _ e
  unfold cv; rw [e]
  generalize A.slots[i] = v at f
  cases v <;> simp [fits] at f ⊢
/-- the byte that i2b leaves of a char -/
def lo8 (x : Int32) : Int32 := x.toInt8.toInt32
theorem fits_lo8 (y : Int32) : fits .byte (.int (lo8 y)) = true := by
  have h1 := y.toInt8.le_toInt
  have h2 := y.toInt8.toInt_lt
  simp only [lo8, fits, Bool.and_eq_true, decide_eq_true_eq, Int32.le_iff_toInt_le, Int8.toInt_toInt32, show (-128 : Int32).toInt = -128 from by decide, show (127 : Int32).toInt = 127 from by decide]
  omega
/-- A' is A but that each place j of lo .. hi - 1 holds f j -/
def Laid (A A' : Cell) (lo hi : Nat) (f : Nat → Value) : Prop := A'.cls = A.cls ∧ A'.vm = A.vm ∧ A'.slots.size = A.slots.size ∧ ∀ i, A'.slots[i]? = if lo ≤ i ∧ i < hi then some (f i) else A.slots[i]?
theorem Laid.zero (A : Cell) (lo : Nat) (f : Nat → Value) : Laid A A lo (lo + 0) f := ⟨rfl, rfl, rfl, fun i => by rw [if_neg (by omega)]⟩
theorem Laid.step {A Ak : Cell} {lo k : Nat} {f : Nat → Value} {v : Value} (h : Laid A Ak lo k f) (hlo : lo ≤ k) (hk : k < Ak.slots.size) (hv : v = f k) : Laid A (Ak.setSlot k v) lo (k + 1) f := by
  refine ⟨h.1, h.2.1, by simpa [Cell.setSlot] using h.2.2.1, fun i => ?_⟩
  by_cases e : k = i
  · subst e; rw [Cell.slots_setSlot_self v hk, if_pos (by omega), hv]
  · rw [Cell.slots_setSlot_ne v e, h.2.2.2 i]
    by_cases q : lo ≤ i ∧ i < k
    · rw [if_pos q, if_pos (by omega)]
    · rw [if_neg q, if_neg (by omega)]
def U16 : String := "java/lang/StringUTF16"
namespace Cmp5
def yN : MethodName := ⟨"java/lang/StringUTF16", "compress", "([CI[BII)I"⟩
abbrev yB : ByteArray := jdk_52_method_21_code
theorem d0 : decode yB 0 = .ok (.iconst 0, 1) := by decide +kernel
theorem d1 : decode yB 1 = .ok (.istore 5, 2) := by decide +kernel
theorem d3 : decode yB 3 = .ok (.iload 5, 2) := by decide +kernel
theorem d5 : decode yB 5 = .ok (.iload 4, 2) := by decide +kernel
theorem d7 : decode yB 7 = .ok (.if_icmp (.ge) 37, 3) := by decide +kernel
theorem d10 : decode yB 10 = .ok (.aload_n 0, 1) := by decide +kernel
theorem d11 : decode yB 11 = .ok (.iload_n 1, 1) := by decide +kernel
theorem d12 : decode yB 12 = .ok (.caload, 1) := by decide +kernel
theorem d13 : decode yB 13 = .ok (.istore 6, 2) := by decide +kernel
theorem d15 : decode yB 15 = .ok (.iload 6, 2) := by decide +kernel
theorem d17 : decode yB 17 = .ok (.sipush 255, 3) := by decide +kernel
theorem d20 : decode yB 20 = .ok (.if_icmp (.le) 6, 3) := by decide +kernel
theorem d26 : decode yB 26 = .ok (.aload_n 2, 1) := by decide +kernel
theorem d27 : decode yB 27 = .ok (.iload_n 3, 1) := by decide +kernel
theorem d28 : decode yB 28 = .ok (.iload 6, 2) := by decide +kernel
theorem d30 : decode yB 30 = .ok (.i2b, 1) := by decide +kernel
theorem d31 : decode yB 31 = .ok (.bastore, 1) := by decide +kernel
theorem d32 : decode yB 32 = .ok (.iinc 1 1, 3) := by decide +kernel
theorem d35 : decode yB 35 = .ok (.iinc 3 1, 3) := by decide +kernel
theorem d38 : decode yB 38 = .ok (.iinc 5 1, 3) := by decide +kernel
theorem d41 : decode yB 41 = .ok (.goto (-38), 3) := by decide +kernel
theorem d44 : decode yB 44 = .ok (.iload 4, 2) := by decide +kernel
theorem d46 : decode yB 46 = .ok (.ireturn, 1) := by decide +kernel
def site : List Cond := []
def tab : Cond := tabOf yN yB 7 (some .int) site
def P (b : Addr) (A : Cell) (d : Addr) (B : Cell) (o q len : Nat) (args : Array Value) (s : State) : Prop := args = #[.ref b, .int (Int32.ofNat o), .ref d, .int (Int32.ofNat q), .int (Int32.ofNat len)] ∧ Ch b A s ∧ Arr .byte d B s ∧ b ≠ d ∧ o + len ≤ A.slots.size ∧ q + len ≤ B.slots.size ∧ ∀ i, i < len → ¬ 255 < cv A (o + i)
def E (b : Addr) (A : Cell) (d : Addr) (B : Cell) (o q len : Nat) (r : Option Value) (s u : State) : Prop := r = some (.int (Int32.ofNat len)) ∧ ∃ B', Put d B' s u ∧ Laid B B' q (q + len) (fun j => Value.int (lo8 (cv A (o + (j - q)))))
/-- no char of the range above 255: len; the places written hold each char's low byte -/
theorem law (l : Launch) (b : Addr) (A : Cell) (d : Addr) (B : Cell) (o q len : Nat) : Law l yN 5 5 0 0 yB 7 (some .int) site (P b A d B o q len) (E b A d B o q len) (copyLocs d q len) 0 0 := by
  refine Law.of_walk (plainFor_of_name (by decide +kernel)) (by decide +kernel) (by decide +kernel) (by decide) (fun _ _ h => by rw [h.1]; rfl) (fun _ U U' hal hh h => ⟨h.1, h.2.1.mv hal hh, h.2.2.1.mv hal hh, h.2.2.2⟩) (fun r U U' V V' h1 hal h2 h => ⟨h.1, h.2.elim fun B' q => ⟨B', q.1.mv h1 h2, q.2⟩⟩) ?_
  intro p e s m args below meth c s₁ X0 hexec hbytes hml hret hlk hnm hown hh0 W hP
  obtain ⟨rfl, hA, hB, hne, l1, l2, hp⟩ := hP
  have c1 : Steps p.tables e below (s₁.setTop (entryFrame m #[.ref b, .int (Int32.ofNat o), .ref d, .int (Int32.ofNat q), .int (Int32.ofNat len)] 7)) (s₁.setTop (mkF m 0 #[.val (.ref b), .val (.int (Int32.ofNat o)), .val (.ref d), .val (.int (Int32.ofNat q)), .val (.int (Int32.ofNat len)), .unset, .unset] [])) := entry rfl
  have hA0 := hA.1.mv X0.warmed.alike hh0
  have hB0 := hB.mv X0.warmed.alike hh0
  have a31 := hA.1.2.2.2
  have c2 : Steps p.tables e below (s₁.setTop (entryFrame m #[.ref b, .int (Int32.ofNat o), .ref d, .int (Int32.ofNat q), .int (Int32.ofNat len)] 7)) (s₁.setTop (mkF m 3 #[.val (.ref b), .val (.int (Int32.ofNat o)), .val (.ref d), .val (.int (Int32.ofNat q)), .val (.int (Int32.ofNat len)), .val (.int 0), .unset] [])) := c1.trans (by
    refine iconstV X0.here hexec rfl 0 (hb hbytes d0) (by decide) ?_
    refine XS.istore X0.here hexec rfl (hb hbytes d1) rfl rfl ?_
    exact Steps.refl _)
  have loop : ∀ (r i : Nat), i + r = len → ∀ (z : Slot), (z = .unset ∨ ∃ w, z = .val w ∧ w.category = 1) → ∀ (Tl : State) (Bk : Cell), Stand p l e { frames := 0, locals := 0, cells := 0, slots := 0 } s m #[.ref b, .int (Int32.ofNat o), .ref d, .int (Int32.ofNat q), .int (Int32.ofNat len)] below meth c Tl ([] ++ copyLocs d q i) 0 0 → Put d Bk s₁ Tl → Laid B Bk q (q + i) (fun j => Value.int (lo8 (cv A (o + (j - q))))) →
      Steps p.tables e below (s₁.setTop (entryFrame m #[.ref b, .int (Int32.ofNat o), .ref d, .int (Int32.ofNat q), .int (Int32.ofNat len)] 7)) (Tl.setTop (mkF m 3 #[.val (.ref b), .val (.int (Int32.ofNat (o + i))), .val (.ref d), .val (.int (Int32.ofNat (q + i))), .val (.int (Int32.ofNat len)), .val (.int (Int32.ofNat i)), z] [])) → ∃ (T' : State) (B' : Cell) (z' : Slot), Stand p l e { frames := 0, locals := 0, cells := 0, slots := 0 } s m #[.ref b, .int (Int32.ofNat o), .ref d, .int (Int32.ofNat q), .int (Int32.ofNat len)] below meth c T' ([] ++ copyLocs d q len) 0 0 ∧ Put d B' s₁ T' ∧ Laid B B' q (q + len) (fun j => Value.int (lo8 (cv A (o + (j - q))))) ∧
      Steps p.tables e below (s₁.setTop (entryFrame m #[.ref b, .int (Int32.ofNat o), .ref d, .int (Int32.ofNat q), .int (Int32.ofNat len)] 7)) (T'.setTop (mkF m 3 #[.val (.ref b), .val (.int (Int32.ofNat (o + len))), .val (.ref d), .val (.int (Int32.ofNat (q + len))), .val (.int (Int32.ofNat len)), .val (.int (Int32.ofNat len)), z'] [])) := by
    intro r
    induction r with
    | zero =>
      intro i hi z hz Tl Bk Xl pl fl cl
      have hil : i = len := by omega
      rw [hil] at Xl fl cl
      exact ⟨Tl, Bk, z, Xl, pl, fl, cl⟩
    | succ r ih =>
      intro i hi z hz Tl Bk Xl pl fl cl
      have all := X0.warmed.alike.symm.trans Xl.warmed.alike
      have hAl := hA0.keep all (pl.other hne hA0.1)
      have hBk := hB0.like all pl.1 fl.1 fl.2.1 fl.2.2.1
      have hlt : q + i < Bk.slots.size := by rw [fl.2.2.1]; omega
      have c3 : Steps p.tables e below (s₁.setTop (entryFrame m #[.ref b, .int (Int32.ofNat o), .ref d, .int (Int32.ofNat q), .int (Int32.ofNat len)] 7)) (Tl.setTop (mkF m 12 #[.val (.ref b), .val (.int (Int32.ofNat (o + i))), .val (.ref d), .val (.int (Int32.ofNat (q + i))), .val (.int (Int32.ofNat len)), .val (.int (Int32.ofNat i)), z] [.int (Int32.ofNat (o + i)), .ref b])) := cl.trans (by
        refine XS.iload Xl.here hexec rfl (hb hbytes d3) rfl ?_
        refine XS.iload Xl.here hexec rfl (hb hbytes d5) rfl ?_
        refine XS.icmpNo Xl.here hexec rfl (hb hbytes d7) rfl (ii_ge_f (lt32 (by omega) (by omega))) ?_
        refine XS.aloadN Xl.here hexec rfl (hb hbytes d10) rfl rfl ?_
        refine XS.iloadN Xl.here hexec rfl (hb hbytes d11) rfl ?_
        exact Steps.refl _)
      have c4 : Steps p.tables e below (s₁.setTop (entryFrame m #[.ref b, .int (Int32.ofNat o), .ref d, .int (Int32.ofNat q), .int (Int32.ofNat len)] 7)) (Tl.setTop (mkF m 13 #[.val (.ref b), .val (.int (Int32.ofNat (o + i))), .val (.ref d), .val (.int (Int32.ofNat (q + i))), .val (.int (Int32.ofNat len)), .val (.int (Int32.ofNat i)), z] [.int (cv A (o + i))])) := c3.trans (by
        refine Xl.aget hexec hAl rfl (hA.get (i := o + i) (by omega)) rfl rfl (hb hbytes d12) ?_
        exact Steps.refl _)
      have c5 : Steps p.tables e below (s₁.setTop (entryFrame m #[.ref b, .int (Int32.ofNat o), .ref d, .int (Int32.ofNat q), .int (Int32.ofNat len)] 7)) (Tl.setTop (mkF m 15 #[.val (.ref b), .val (.int (Int32.ofNat (o + i))), .val (.ref d), .val (.int (Int32.ofNat (q + i))), .val (.int (Int32.ofNat len)), .val (.int (Int32.ofNat i)), .val (.int (cv A (o + i)))] [])) := c4.trans (by
        refine XS.istoreS Xl.here hexec rfl (hb hbytes d13) rfl rfl hz ?_
        exact Steps.refl _)
      have c6 : Steps p.tables e below (s₁.setTop (entryFrame m #[.ref b, .int (Int32.ofNat o), .ref d, .int (Int32.ofNat q), .int (Int32.ofNat len)] 7)) (Tl.setTop (mkF m 31 #[.val (.ref b), .val (.int (Int32.ofNat (o + i))), .val (.ref d), .val (.int (Int32.ofNat (q + i))), .val (.int (Int32.ofNat len)), .val (.int (Int32.ofNat i)), .val (.int (cv A (o + i)))] [.int (lo8 (cv A (o + i))), .int (Int32.ofNat (q + i)), .ref d])) := c5.trans (by
        refine XS.iload Xl.here hexec rfl (hb hbytes d15) rfl ?_
        refine sipushV Xl.here hexec rfl 255 (hb hbytes d17) (by decide) ?_
        refine XS.icmpYes Xl.here hexec rfl (pc0 := 20) rfl (hb hbytes d20) rfl (ii_le_t (hp i (by omega))) (by decide) rfl ?_
        refine XS.aloadN Xl.here hexec rfl (hb hbytes d26) rfl rfl ?_
        refine XS.iloadN Xl.here hexec rfl (hb hbytes d27) rfl ?_
        refine XS.iload Xl.here hexec rfl (hb hbytes d28) rfl ?_
        refine i2b Xl.here hexec rfl (hb hbytes d30) rfl ?_
        exact Steps.refl _)
      obtain ⟨T7, X7, p7, st7⟩ := Xl.aput hexec hBk rfl hlt rfl (fits_lo8 (cv A (o + i))) (g := (mkF m 31 #[.val (.ref b), .val (.int (Int32.ofNat (o + i))), .val (.ref d), .val (.int (Int32.ofNat (q + i))), .val (.int (Int32.ofNat len)), .val (.int (Int32.ofNat i)), .val (.int (cv A (o + i)))] [.int (lo8 (cv A (o + i))), .int (Int32.ofNat (q + i)), .ref d])) rfl (rest := []) rfl (hb hbytes d31)
      have c8 : Steps p.tables e below (s₁.setTop (entryFrame m #[.ref b, .int (Int32.ofNat o), .ref d, .int (Int32.ofNat q), .int (Int32.ofNat len)] 7)) (T7.setTop (mkF m 32 #[.val (.ref b), .val (.int (Int32.ofNat (o + i))), .val (.ref d), .val (.int (Int32.ofNat (q + i))), .val (.int (Int32.ofNat len)), .val (.int (Int32.ofNat i)), .val (.int (cv A (o + i)))] [])) := c6.trans (st7 _ (Steps.refl _))
      have c9 : Steps p.tables e below (s₁.setTop (entryFrame m #[.ref b, .int (Int32.ofNat o), .ref d, .int (Int32.ofNat q), .int (Int32.ofNat len)] 7)) (T7.setTop (mkF m 3 #[.val (.ref b), .val (.int (Int32.ofNat (o + i) + 1)), .val (.ref d), .val (.int (Int32.ofNat (q + i) + 1)), .val (.int (Int32.ofNat len)), .val (.int (Int32.ofNat i + 1)), .val (.int (cv A (o + i)))] [])) := c8.trans (by
        refine iincV X7.here hexec rfl 1 (hb hbytes d32) (by decide) rfl rfl ?_
        refine iincV X7.here hexec rfl 1 (hb hbytes d35) (by decide) rfl rfl ?_
        refine iincV X7.here hexec rfl 1 (hb hbytes d38) (by decide) rfl rfl ?_
        refine XS.goto X7.here hexec rfl (pc0 := 41) rfl (hb hbytes d41) (by decide) rfl ?_
        exact Steps.refl _)
      have c10 : Steps p.tables e below (s₁.setTop (entryFrame m #[.ref b, .int (Int32.ofNat o), .ref d, .int (Int32.ofNat q), .int (Int32.ofNat len)] 7)) (T7.setTop (mkF m 3 #[.val (.ref b), .val (.int (Int32.ofNat (o + (i + 1)))), .val (.ref d), .val (.int (Int32.ofNat (q + (i + 1)))), .val (.int (Int32.ofNat len)), .val (.int (Int32.ofNat (i + 1))), .val (.int (cv A (o + i)))] [])) := by
        have := c9
        rw [succ32, succ32, succ32] at this
        exact this
      exact ih (i + 1) (by omega) _ (Or.inr ⟨_, rfl, rfl⟩) T7 _ (by rw [copyLocs_step, ← List.append_assoc]; exact X7) (pl.trans p7) (fl.step (by omega) hlt (by simp)) c10
  obtain ⟨T9, B9, z9, X9, p9, f9, g9⟩ := loop len 0 (by omega) .unset (Or.inl rfl) s₁ B (by simpa [copyLocs] using X0) ⟨hB0.1, fun _ _ => rfl, rfl⟩ (Laid.zero _ _ _) c2
  have c11 : Steps p.tables e below (s₁.setTop (entryFrame m #[.ref b, .int (Int32.ofNat o), .ref d, .int (Int32.ofNat q), .int (Int32.ofNat len)] 7)) (T9.setTop (mkF m 46 #[.val (.ref b), .val (.int (Int32.ofNat (o + len))), .val (.ref d), .val (.int (Int32.ofNat (q + len))), .val (.int (Int32.ofNat len)), .val (.int (Int32.ofNat len)), z9] [.int (Int32.ofNat len)])) := g9.trans (by
    refine XS.iload X9.here hexec rfl (hb hbytes d3) rfl ?_
    refine XS.iload X9.here hexec rfl (hb hbytes d5) rfl ?_
    refine XS.icmpYes X9.here hexec rfl (pc0 := 7) rfl (hb hbytes d7) rfl (ii_ge_t (nlt32 (by omega) (Nat.le_refl _))) (by decide) rfl ?_
    refine XS.iload X9.here hexec rfl (hb hbytes d44) rfl ?_
    exact Steps.refl _)
  exact ⟨T9, some (.int (Int32.ofNat len)), _, _, _, X9, by simp, rfl, rfl, (fun h => by cases h), ⟨rfl, B9, p9.from hh0, f9⟩, fun fs hl => c11.trans (X9.ireturnOut hexec hret rfl (Or.inl rfl) (hb hbytes d46) hl)⟩
end Cmp5
namespace Cmp3
def yN : MethodName := ⟨"java/lang/StringUTF16", "compress", "([CII)[B"⟩
abbrev yB : ByteArray := jdk_52_method_16_code
theorem d0 : decode yB 0 = .ok (.iload_n 2, 1) := by decide +kernel
theorem d1 : decode yB 1 = .ok (.newarray .byte, 2) := by decide +kernel
theorem d3 : decode yB 3 = .ok (.astore_n 3, 1) := by decide +kernel
theorem d4 : decode yB 4 = .ok (.aload_n 0, 1) := by decide +kernel
theorem d5 : decode yB 5 = .ok (.iload_n 1, 1) := by decide +kernel
theorem d6 : decode yB 6 = .ok (.aload_n 3, 1) := by decide +kernel
theorem d7 : decode yB 7 = .ok (.iconst 0, 1) := by decide +kernel
theorem d8 : decode yB 8 = .ok (.iload_n 2, 1) := by decide +kernel
theorem d9 : decode yB 9 = .ok (.invokestatic 115, 3) := by decide +kernel
theorem d12 : decode yB 12 = .ok (.istore 4, 2) := by decide +kernel
theorem d14 : decode yB 14 = .ok (.iload 4, 2) := by decide +kernel
theorem d16 : decode yB 16 = .ok (.iload_n 2, 1) := by decide +kernel
theorem d17 : decode yB 17 = .ok (.if_icmp (.eq) 40, 3) := by decide +kernel
theorem d57 : decode yB 57 = .ok (.aload_n 3, 1) := by decide +kernel
theorem d58 : decode yB 58 = .ok (.areturn, 1) := by decide +kernel
def site : List Cond := [.arrayClass .byte, Cmp5.tab] ++ staticW U16 115 Cmp5.yN
def tab : Cond := tabOf yN yB 6 (some (.array .byte)) site
def P (b : Addr) (A : Cell) (o len : Nat) (args : Array Value) (s : State) : Prop := args = #[.ref b, .int (Int32.ofNat o), .int (Int32.ofNat len)] ∧ Ch b A s ∧ o + len ≤ A.slots.size ∧ len ≤ 536870912 ∧ ∀ i, i < len → ¬ 255 < cv A (o + i)
def E (b : Addr) (A : Cell) (o len : Nat) (r : Option Value) (s u : State) : Prop := NewArr .byte "[B" len (fun j => .int (lo8 (cv A (o + j)))) r s u ∧ u.heap.size = s.heap.size + 1
/-- no char of the range above 255: a new byte[] of their low bytes -/
theorem law (l : Launch) (b : Addr) (A : Cell) (o len : Nat) : Law l yN 3 3 1 18 yB 6 (some (.array .byte)) site (P b A o len) (E b A o len) [] 1 len := by
  refine Law.of_walk (plainFor_of_name (by decide +kernel)) (by decide +kernel) (by decide +kernel) (by decide) (fun _ _ h => by rw [h.1]; rfl) (fun _ U U' hal hh h => ⟨h.1, h.2.1.mv hal hh, h.2.2⟩) (fun r U U' V V' h1 hal h2 h => ⟨NewArr.mv r U U' V V' h1 hal h2 h.1, by rw [h1, h2]; exact h.2⟩) ?_
  intro p e s m args below meth c s₁ X0 hexec hbytes hml hret hlk hnm hown hh0 W hP
  obtain ⟨rfl, hA, l1, l2, hp⟩ := hP
  have a31 := hA.1.2.2.2
  have c1 : Steps p.tables e below (s₁.setTop (entryFrame m #[.ref b, .int (Int32.ofNat o), .int (Int32.ofNat len)] 6)) (s₁.setTop (mkF m 0 #[.val (.ref b), .val (.int (Int32.ofNat o)), .val (.int (Int32.ofNat len)), .unset, .unset, .unset] [])) := entry rfl
  have c2 : Steps p.tables e below (s₁.setTop (entryFrame m #[.ref b, .int (Int32.ofNat o), .int (Int32.ofNat len)] 6)) (s₁.setTop (mkF m 1 #[.val (.ref b), .val (.int (Int32.ofNat o)), .val (.int (Int32.ofNat len)), .unset, .unset, .unset] [.int (Int32.ofNat len)])) := c1.trans (by
    refine XS.iloadN X0.here hexec rfl (hb hbytes d0) rfl ?_
    exact Steps.refl _)
  obtain ⟨T3, B3, X3, ba3, bs3, bv3, bh3, bf3, st3⟩ := X0.anew hexec (atype := .byte) (wk W (.arrayClass .byte)) rfl (by show len * 1 ≤ _; omega) (by omega) (g := (mkF m 1 #[.val (.ref b), .val (.int (Int32.ofNat o)), .val (.int (Int32.ofNat len)), .unset, .unset, .unset] [.int (Int32.ofNat len)])) rfl (hb hbytes d1) (rest := []) rfl (Nat.le_refl _) (by show 0 + len ≤ len; omega)
  rw [hh0] at ba3 st3
  have kp3 : XT.Kept s T3 := (XT.Kept.of_eq hh0).push bh3
  have hA3 := hA.keep X3.warmed.alike (kp3 _ _ hA.1.1)
  have hne : b ≠ s.heap.size := hA.1.ne
  have c4 : Steps p.tables e below (s₁.setTop (entryFrame m #[.ref b, .int (Int32.ofNat o), .int (Int32.ofNat len)] 6)) (T3.setTop (mkF m 3 #[.val (.ref b), .val (.int (Int32.ofNat o)), .val (.int (Int32.ofNat len)), .unset, .unset, .unset] [.ref s.heap.size])) := c2.trans (st3 _ (Steps.refl _))
  have c5 : Steps p.tables e below (s₁.setTop (entryFrame m #[.ref b, .int (Int32.ofNat o), .int (Int32.ofNat len)] 6)) (T3.setTop (mkF m 9 #[.val (.ref b), .val (.int (Int32.ofNat o)), .val (.int (Int32.ofNat len)), .val (.ref s.heap.size), .unset, .unset] [.int (Int32.ofNat len), .int 0, .ref s.heap.size, .int (Int32.ofNat o), .ref b])) := c4.trans (by
    refine XS.astoreN X3.here hexec rfl (hb hbytes d3) rfl rfl rfl ?_
    refine XS.aloadN X3.here hexec rfl (hb hbytes d4) rfl rfl ?_
    refine XS.iloadN X3.here hexec rfl (hb hbytes d5) rfl ?_
    refine XS.aloadN X3.here hexec rfl (hb hbytes d6) rfl rfl ?_
    refine iconstV X3.here hexec rfl 0 (hb hbytes d7) (by decide) ?_
    refine XS.iloadN X3.here hexec rfl (hb hbytes d8) rfl ?_
    exact Steps.refl _)
  obtain ⟨v6, T6, X6, E6, g6⟩ := X3.callS hexec (Cmp5.law l b A s.heap.size B3 o 0 len) hown (wks W (staticW U16 115 Cmp5.yN)) (wk W Cmp5.tab) (W := 0) (Nat.le_of_ble_eq_true rfl) (Nat.le_of_ble_eq_true rfl) (Nat.le_refl _) (by show 0 + len + 0 ≤ len; omega) (g := (mkF m 9 #[.val (.ref b), .val (.int (Int32.ofNat o)), .val (.int (Int32.ofNat len)), .val (.ref s.heap.size), .unset, .unset] [.int (Int32.ofNat len), .int (Int32.ofNat 0), .ref s.heap.size, .int (Int32.ofNat o), .ref b])) rfl (by rw [hml]; rfl) c5 (argsL := [.ref b, .int (Int32.ofNat o), .ref s.heap.size, .int (Int32.ofNat 0), .int (Int32.ofNat len)]) (rest := []) rfl rfl (by show 2 * 0 + 0 ≤ _; decide) (hb hbytes d9) (⟨rfl, hA3, ba3, hne, l1, by rw [bs3]; simp, hp⟩)
  obtain ⟨rfl, B6, p6, f6⟩ := E6
  have c7 : Steps p.tables e below (s₁.setTop (entryFrame m #[.ref b, .int (Int32.ofNat o), .int (Int32.ofNat len)] 6)) (T6.setTop (mkF m 12 #[.val (.ref b), .val (.int (Int32.ofNat o)), .val (.int (Int32.ofNat len)), .val (.ref s.heap.size), .unset, .unset] [.int (Int32.ofNat len)])) := g6
  have c8 : Steps p.tables e below (s₁.setTop (entryFrame m #[.ref b, .int (Int32.ofNat o), .int (Int32.ofNat len)] 6)) (T6.setTop (mkF m 58 #[.val (.ref b), .val (.int (Int32.ofNat o)), .val (.int (Int32.ofNat len)), .val (.ref s.heap.size), .val (.int (Int32.ofNat len)), .unset] [.ref s.heap.size])) := c7.trans (by
    refine XS.istore X6.here hexec rfl (hb hbytes d12) rfl rfl ?_
    refine XS.iload X6.here hexec rfl (hb hbytes d14) rfl ?_
    refine XS.iloadN X6.here hexec rfl (hb hbytes d16) rfl ?_
    refine XS.icmpYes X6.here hexec rfl (pc0 := 17) rfl (hb hbytes d17) rfl (ii_eq_t rfl) (by decide) rfl ?_
    refine XS.aloadN X6.here hexec rfl (hb hbytes d57) rfl rfl ?_
    exact Steps.refl _)
  have X8 := X6.wide (L' := []) (cells' := 1) (slots' := len) (fun x hx hlt => by
    simp only [List.nil_append, copyLocs, List.mem_map, List.mem_range] at hx
    obtain ⟨i, -, rfl⟩ := hx
    exact absurd hlt (Nat.lt_irrefl _)) (Nat.le_refl _) (by omega)
  exact ⟨T6, some (.ref s.heap.size), _, _, _, X8, rfl, rfl, rfl, (fun h => by cases h), ⟨⟨rfl, B6, ba3.like (X3.warmed.alike.symm.trans X6.warmed.alike) p6.1 f6.1 f6.2.1 f6.2.2.1, f6.2.1.trans bv3, by rw [X6.warmed.alike.findClass, f6.1]; exact bf3, by rw [f6.2.2.1, bs3]; simp, fun j hj => by rw [f6.2.2.2 j, if_pos (by omega)]; rfl, kp3.put p6 (Nat.le_refl _)⟩, by rw [p6.2.2, bh3, hh0]; simp⟩, fun fs hl => c8.trans (X8.areturnOut hexec rfl hret rfl (hb hbytes d58) hl)⟩
end Cmp3
namespace CodL
def yN : MethodName := ⟨"java/lang/StringUTF16", "coderFromArrayLen", "([BI)B"⟩
abbrev yB : ByteArray := jdk_52_method_15_code
theorem d0 : decode yB 0 = .ok (.iload_n 1, 1) := by decide +kernel
theorem d1 : decode yB 1 = .ok (.aload_n 0, 1) := by decide +kernel
theorem d2 : decode yB 2 = .ok (.arraylength, 1) := by decide +kernel
theorem d3 : decode yB 3 = .ok (.isub, 1) := by decide +kernel
theorem d4 : decode yB 4 = .ok (.bipush 31, 2) := by decide +kernel
theorem d6 : decode yB 6 = .ok (.iushr, 1) := by decide +kernel
theorem d7 : decode yB 7 = .ok (.i2b, 1) := by decide +kernel
theorem d8 : decode yB 8 = .ok (.ireturn, 1) := by decide +kernel
def site : List Cond := []
def tab : Cond := tabOf yN yB 2 (some .byte) site
def P (d : Addr) (B : Cell) (args : Array Value) (s : State) : Prop := args = #[.ref d, .int (Int32.ofNat B.slots.size)] ∧ Arr .byte d B s
def E (r : Option Value) (s u : State) : Prop := XT.PureE (some (.int 0)) r s u
/-- an array as long as the number of chars: LATIN1 -/
theorem law (l : Launch) (d : Addr) (B : Cell) : Law l yN 2 2 0 0 yB 2 (some .byte) site (P d B) E [] 0 0 := by
  refine Law.of_walk (plainFor_of_name (by decide +kernel)) (by decide +kernel) (by decide +kernel) (by decide) (fun _ _ h => by rw [h.1]; rfl) (fun _ U U' hal hh h => ⟨h.1, h.2.mv hal hh⟩) (fun r U U' V V' h1 hal h2 h => XT.PureE.mv r U U' V V' h1 hal h2 h) ?_
  intro p e s m args below meth c s₁ X0 hexec hbytes hml hret hlk hnm hown hh0 W hP
  obtain ⟨rfl, hB⟩ := hP
  have hB0 := hB.mv X0.warmed.alike hh0
  have c1 : Steps p.tables e below (s₁.setTop (entryFrame m #[.ref d, .int (Int32.ofNat B.slots.size)] 2)) (s₁.setTop (mkF m 0 #[.val (.ref d), .val (.int (Int32.ofNat B.slots.size))] [])) := entry rfl
  have c2 : Steps p.tables e below (s₁.setTop (entryFrame m #[.ref d, .int (Int32.ofNat B.slots.size)] 2)) (s₁.setTop (mkF m 2 #[.val (.ref d), .val (.int (Int32.ofNat B.slots.size))] [.ref d, .int (Int32.ofNat B.slots.size)])) := c1.trans (by
    refine XS.iloadN X0.here hexec rfl (hb hbytes d0) rfl ?_
    refine XS.aloadN X0.here hexec rfl (hb hbytes d1) rfl rfl ?_
    exact Steps.refl _)
  have c3 : Steps p.tables e below (s₁.setTop (entryFrame m #[.ref d, .int (Int32.ofNat B.slots.size)] 2)) (s₁.setTop (mkF m 8 #[.val (.ref d), .val (.int (Int32.ofNat B.slots.size))] [.int (lo8 (ushr (Int32.ofNat B.slots.size - Int32.ofNat B.slots.size) 31))])) := c2.trans (by
    refine X0.alen hexec hB0 rfl rfl (hb hbytes d2) ?_
    refine XS.isub X0.here hexec rfl (hb hbytes d3) rfl ?_
    refine bipushV X0.here hexec rfl 31 (hb hbytes d4) (by decide) ?_
    refine iushr X0.here hexec rfl (hb hbytes d6) rfl ?_
    refine i2b X0.here hexec rfl (hb hbytes d7) rfl ?_
    exact Steps.refl _)
  have e0 : lo8 (ushr (Int32.ofNat B.slots.size - Int32.ofNat B.slots.size) 31) = 0 := by rw [Int32.sub_self]; decide
  rw [e0] at c3
  exact ⟨s₁, some (.int 0), _, _, _, X0, rfl, rfl, rfl, (fun h => by cases h), ⟨rfl, hh0⟩, fun fs hl => c3.trans (X0.ireturnOut hexec hret rfl (Or.inr (Or.inr (Or.inl rfl))) (hb hbytes d8) hl)⟩
end CodL
/-- the String at a is Latin-1 over a new byte[] (the heap's one new cell): the low bytes of the len chars of A from o on; every cell but a is kept -/
def Got (a : Addr) (D : Cell) (fV fC : Field) (A : Cell) (o len : Nat) (r : Option Value) (s u : State) : Prop := r = none ∧ ∃ D' V : Cell, Blank "java/lang/String" a D' u ∧ Same D D' [fV.slot, fC.slot] ∧ D'.slots[fV.slot]? = some (.ref s.heap.size) ∧ D'.slots[fC.slot]? = some (.int 0) ∧ Arr .byte s.heap.size V u ∧ V.vm = .none ∧ u.vm.findClass "[B" = some V.cls ∧ V.slots.size = len ∧ (∀ j, j < len → V.slots[j]? = some (.int (lo8 (cv A (o + j))))) ∧ (∀ (y : Addr) (c : Cell), y ≠ a → s.heap[y]? = some c → u.heap[y]? = some c) ∧ u.heap.size = s.heap.size + 1
theorem Got.mv {a : Addr} {D A : Cell} {fV fC : Field} {o len : Nat} : ∀ r (U U' V V' : State), U'.heap = U.heap → V.vm.Alike V'.vm → V'.heap = V.heap → Got a D fV fC A o len r U V → Got a D fV fC A o len r U' V' :=
  fun r U U' V V' h1 hal h2 ⟨e0, D', X, a1, a2, a3, a4, a5, a6, a7, a8, a9, a10, a11⟩ => ⟨e0, D', X, a1.mv hal h2, a2, by rw [h1]; exact a3, a4, by rw [h1]; exact a5.mv hal h2, a6, by rw [hal.findClass]; exact a7, a8, a9, by rw [h1, h2]; exact a10, by rw [h1, h2]; exact a11⟩
namespace New4
def yN : MethodName := ⟨"java/lang/String", "<init>", "([CIILjava/lang/Void;)V"⟩
abbrev yB : ByteArray := jdk_42_method_149_code
theorem d0 : decode yB 0 = .ok (.aload_n 0, 1) := by decide +kernel
theorem d1 : decode yB 1 = .ok (.invokespecial 1, 3) := by decide +kernel
theorem d4 : decode yB 4 = .ok (.iload_n 3, 1) := by decide +kernel
theorem d5 : decode yB 5 = .ok (.ifCond (.ne) 22, 3) := by decide +kernel
theorem d27 : decode yB 27 = .ok (.getstatic 38, 3) := by decide +kernel
theorem d30 : decode yB 30 = .ok (.ifCond (.eq) 28, 3) := by decide +kernel
theorem d33 : decode yB 33 = .ok (.aload_n 1, 1) := by decide +kernel
theorem d34 : decode yB 34 = .ok (.iload_n 2, 1) := by decide +kernel
theorem d35 : decode yB 35 = .ok (.iload_n 3, 1) := by decide +kernel
theorem d36 : decode yB 36 = .ok (.invokestatic 177, 3) := by decide +kernel
theorem d39 : decode yB 39 = .ok (.astore 5, 2) := by decide +kernel
theorem d41 : decode yB 41 = .ok (.aload_n 0, 1) := by decide +kernel
theorem d42 : decode yB 42 = .ok (.aload 5, 2) := by decide +kernel
theorem d44 : decode yB 44 = .ok (.iload_n 3, 1) := by decide +kernel
theorem d45 : decode yB 45 = .ok (.invokestatic 47, 3) := by decide +kernel
theorem d48 : decode yB 48 = .ok (.putfield 15, 3) := by decide +kernel
theorem d51 : decode yB 51 = .ok (.aload_n 0, 1) := by decide +kernel
theorem d52 : decode yB 52 = .ok (.aload 5, 2) := by decide +kernel
theorem d54 : decode yB 54 = .ok (.putfield 9, 3) := by decide +kernel
theorem d57 : decode yB 57 = .ok (.return_, 1) := by decide +kernel
def site : List Cond := [.fieldLink "java/lang/String" 38 "java/lang/String" "COMPACT_STRINGS" "Z", Cmp3.tab, CodL.tab, .laysFinal "java/lang/String" "java/lang/String" "value" "[B", .fieldLink "java/lang/String" 9 "java/lang/String" "value" "[B", .laysFinal "java/lang/String" "java/lang/String" "coder" "B", .fieldLink "java/lang/String" 15 "java/lang/String" "coder" "B"] ++ objW "java/lang/String" 1 ++ staticW "java/lang/String" 177 Cmp3.yN ++ staticW "java/lang/String" 47 CodL.yN
def tab : Cond := tabOf yN yB 6 none site
def P (a : Addr) (D : Cell) (fV fC : Field) (b : Addr) (A : Cell) (z : Int32) (o len : Nat) (args : Array Value) (s : State) : Prop := args = #[.ref a, .ref b, .int (Int32.ofNat o), .int (Int32.ofNat len), .null] ∧ Blank "java/lang/String" a D s ∧ Found "java/lang/String" "value" "[B" fV s ∧ Found "java/lang/String" "coder" "B" fC s ∧ Ch b A s ∧ StaticIs s "java/lang/String" "COMPACT_STRINGS" "Z" (.int z) ∧ ¬ z = 0 ∧ 0 < len ∧ o + len ≤ A.slots.size ∧ len ≤ 536870912 ∧ ∀ i, i < len → ¬ 255 < cv A (o + i)
def E (a : Addr) (D : Cell) (fV fC : Field) (A : Cell) (o len : Nat) (r : Option Value) (s u : State) : Prop := Got a D fV fC A o len r s u
/-- len > 0, no char of the range above 255: a Latin-1 String of their low bytes -/
theorem law (l : Launch) (a : Addr) (D : Cell) (fV fC : Field) (b : Addr) (A : Cell) (z : Int32) (o len : Nat) : Law l yN 5 4 2 35 yB 6 none site (P a D fV fC b A z o len) (E a D fV fC A o len) [⟨a, fC.slot⟩, ⟨a, fV.slot⟩] 1 len := by
  refine Law.of_walk (plainFor_of_name (by decide +kernel)) (by decide +kernel) (by decide +kernel) (by decide) (fun _ _ h => by rw [h.1]; rfl) (fun _ U U' hal hh h => ⟨h.1, h.2.1.mv hal hh, h.2.2.1.al hal, h.2.2.2.1.al hal, h.2.2.2.2.1.mv hal hh, h.2.2.2.2.2.1.there hal hh, h.2.2.2.2.2.2⟩) (fun r U U' V V' h1 hal h2 h => Got.mv r U U' V V' h1 hal h2 h) ?_
  intro p e s m args below meth c s₁ X0 hexec hbytes hml hret hlk hnm hown hh0 W hP
  obtain ⟨rfl, hB, f1, f2, hA, s1, hz, l0, l1, l2, hp⟩ := hP
  have a31 := hA.1.2.2.2
  have c1 : Steps p.tables e below (s₁.setTop (entryFrame m #[.ref a, .ref b, .int (Int32.ofNat o), .int (Int32.ofNat len), .null] 6)) (s₁.setTop (mkF m 0 #[.val (.ref a), .val (.ref b), .val (.int (Int32.ofNat o)), .val (.int (Int32.ofNat len)), .val .null, .unset] [])) := entry rfl
  have c2 : Steps p.tables e below (s₁.setTop (entryFrame m #[.ref a, .ref b, .int (Int32.ofNat o), .int (Int32.ofNat len), .null] 6)) (s₁.setTop (mkF m 1 #[.val (.ref a), .val (.ref b), .val (.int (Int32.ofNat o)), .val (.int (Int32.ofNat len)), .val .null, .unset] [.ref a])) := c1.trans (by
    refine XS.aloadN X0.here hexec rfl (hb hbytes d0) rfl rfl ?_
    exact Steps.refl _)
  obtain ⟨T3, X3, q3, st3⟩ := X0.oinit hexec hown (wks W (objW "java/lang/String" 1)) (g := (mkF m 1 #[.val (.ref a), .val (.ref b), .val (.int (Int32.ofNat o)), .val (.int (Int32.ofNat len)), .val .null, .unset] [.ref a])) rfl (by rw [hml]; rfl) (rest := []) rfl (hb hbytes d1) (W := 0) (by show 2 * 0 + 0 ≤ _; decide) (Nat.le_of_ble_eq_true rfl) (Nat.le_of_ble_eq_true rfl)
  have hh3 := q3.trans hh0
  have c4 : Steps p.tables e below (s₁.setTop (entryFrame m #[.ref a, .ref b, .int (Int32.ofNat o), .int (Int32.ofNat len), .null] 6)) (T3.setTop (mkF m 27 #[.val (.ref a), .val (.ref b), .val (.int (Int32.ofNat o)), .val (.int (Int32.ofNat len)), .val .null, .unset] [])) := (c2.trans (st3 _ (Steps.refl _))).trans (by
    refine XS.iloadN X3.here hexec rfl (hb hbytes d4) rfl ?_
    refine XS.ifYes X3.here hexec rfl (pc0 := 5) rfl (hb hbytes d5) rfl (i0_ne_t (nz32 (by omega) l0)) (by decide) rfl ?_
    exact Steps.refl _)
  obtain ⟨T5, X5, q5, st5⟩ := X3.sget hexec hown (wk W (.fieldLink "java/lang/String" 38 "java/lang/String" "COMPACT_STRINGS" "Z")) s1 (fun _ _ h => by rw [hh3]; exact h) (g := (mkF m 27 #[.val (.ref a), .val (.ref b), .val (.int (Int32.ofNat o)), .val (.int (Int32.ofNat len)), .val .null, .unset] [])) rfl (hb hbytes d27)
  have hh5 := q5.trans hh3
  have c6 : Steps p.tables e below (s₁.setTop (entryFrame m #[.ref a, .ref b, .int (Int32.ofNat o), .int (Int32.ofNat len), .null] 6)) (T5.setTop (mkF m 30 #[.val (.ref a), .val (.ref b), .val (.int (Int32.ofNat o)), .val (.int (Int32.ofNat len)), .val .null, .unset] [.int z])) := c4.trans (st5 _ (Steps.refl _))
  have c7 : Steps p.tables e below (s₁.setTop (entryFrame m #[.ref a, .ref b, .int (Int32.ofNat o), .int (Int32.ofNat len), .null] 6)) (T5.setTop (mkF m 36 #[.val (.ref a), .val (.ref b), .val (.int (Int32.ofNat o)), .val (.int (Int32.ofNat len)), .val .null, .unset] [.int (Int32.ofNat len), .int (Int32.ofNat o), .ref b])) := c6.trans (by
    refine XS.ifNo X5.here hexec rfl (hb hbytes d30) rfl (i0_eq_f hz) ?_
    refine XS.aloadN X5.here hexec rfl (hb hbytes d33) rfl rfl ?_
    refine XS.iloadN X5.here hexec rfl (hb hbytes d34) rfl ?_
    refine XS.iloadN X5.here hexec rfl (hb hbytes d35) rfl ?_
    exact Steps.refl _)
  obtain ⟨v8, T8, X8, E8, g8⟩ := X5.callS hexec (Cmp3.law l b A o len) hown (wks W (staticW "java/lang/String" 177 Cmp3.yN)) (wk W Cmp3.tab) (W := 0) (Nat.le_of_ble_eq_true rfl) (Nat.le_of_ble_eq_true rfl) (Nat.le_refl _) (by show 0 + len ≤ len; omega) (g := (mkF m 36 #[.val (.ref a), .val (.ref b), .val (.int (Int32.ofNat o)), .val (.int (Int32.ofNat len)), .val .null, .unset] [.int (Int32.ofNat len), .int (Int32.ofNat o), .ref b])) rfl (by rw [hml]; rfl) c7 (argsL := [.ref b, .int (Int32.ofNat o), .int (Int32.ofNat len)]) (rest := []) rfl rfl (by show 2 * 0 + 0 ≤ _; decide) (hb hbytes d36) (⟨rfl, hA.mv X5.warmed.alike hh5, l1, l2, hp⟩)
  obtain ⟨e8, z8⟩ := E8
  obtain ⟨rfl, N, n1, n2, n3, n4, n5, n6⟩ := NewArr.mv _ T5 s _ _ hh5.symm (Vm.Alike.refl _) rfl e8
  rw [hh5] at z8
  have hB1 := hB.keep X8.warmed.alike (n6 _ _ hB.1)
  have hne : s.heap.size ≠ a := (Nat.ne_of_lt (Array.getElem?_eq_some_iff.mp hB.1).1).symm
  have c9 : Steps p.tables e below (s₁.setTop (entryFrame m #[.ref a, .ref b, .int (Int32.ofNat o), .int (Int32.ofNat len), .null] 6)) (T8.setTop (mkF m 39 #[.val (.ref a), .val (.ref b), .val (.int (Int32.ofNat o)), .val (.int (Int32.ofNat len)), .val .null, .unset] [.ref s.heap.size])) := g8
  have c10 : Steps p.tables e below (s₁.setTop (entryFrame m #[.ref a, .ref b, .int (Int32.ofNat o), .int (Int32.ofNat len), .null] 6)) (T8.setTop (mkF m 45 #[.val (.ref a), .val (.ref b), .val (.int (Int32.ofNat o)), .val (.int (Int32.ofNat len)), .val .null, .val (.ref s.heap.size)] [.int (Int32.ofNat N.slots.size), .ref s.heap.size, .ref a])) := by
    have hc : Steps p.tables e below (s₁.setTop (entryFrame m #[.ref a, .ref b, .int (Int32.ofNat o), .int (Int32.ofNat len), .null] 6)) (T8.setTop (mkF m 45 #[.val (.ref a), .val (.ref b), .val (.int (Int32.ofNat o)), .val (.int (Int32.ofNat len)), .val .null, .val (.ref s.heap.size)] [.int (Int32.ofNat len), .ref s.heap.size, .ref a])) := c9.trans (by
      refine XS.astore X8.here hexec rfl (hb hbytes d39) rfl rfl rfl ?_
      refine XS.aloadN X8.here hexec rfl (hb hbytes d41) rfl rfl ?_
      refine XS.aload X8.here hexec rfl (hb hbytes d42) rfl rfl ?_
      refine XS.iloadN X8.here hexec rfl (hb hbytes d44) rfl ?_
      exact Steps.refl _)
    rw [n4]; exact hc
  obtain ⟨v11, T11, X11, E11, g11⟩ := X8.callS hexec (CodL.law l s.heap.size N) hown (wks W (staticW "java/lang/String" 47 CodL.yN)) (wk W CodL.tab) (W := 1) (Nat.le_of_ble_eq_true rfl) (Nat.le_of_ble_eq_true rfl) (Nat.le_refl _) (by show 0 + len + 0 ≤ len; omega) (g := (mkF m 45 #[.val (.ref a), .val (.ref b), .val (.int (Int32.ofNat o)), .val (.int (Int32.ofNat len)), .val .null, .val (.ref s.heap.size)] [.int (Int32.ofNat N.slots.size), .ref s.heap.size, .ref a])) rfl (by rw [hml]; rfl) c10 (argsL := [.ref s.heap.size, .int (Int32.ofNat N.slots.size)]) (rest := [.ref a]) rfl rfl (by show 2 * 0 + (1 + 0) ≤ _; decide) (hb hbytes d45) (⟨rfl, n1⟩)
  obtain ⟨rfl, q11⟩ := E11
  have hB11 := hB1.mv (X8.warmed.alike.symm.trans X11.warmed.alike) q11
  have c12 : Steps p.tables e below (s₁.setTop (entryFrame m #[.ref a, .ref b, .int (Int32.ofNat o), .int (Int32.ofNat len), .null] 6)) (T11.setTop (mkF m 48 #[.val (.ref a), .val (.ref b), .val (.int (Int32.ofNat o)), .val (.int (Int32.ofNat len)), .val .null, .val (.ref s.heap.size)] [.int 0, .ref a])) := g11
  obtain ⟨T13, X13, p13, bl13, sl13, st13⟩ := X11.finit hexec hown (wk W (.fieldLink "java/lang/String" 15 "java/lang/String" "coder" "B")) (Or.inr ⟨_, (wk W (.laysFinal "java/lang/String" "java/lang/String" "coder" "B"))⟩) (Or.inl ⟨rfl, hnm⟩) f2 (Or.inl rfl) hB11 (t := .byte) (by decide +kernel) rfl (g := (mkF m 48 #[.val (.ref a), .val (.ref b), .val (.int (Int32.ofNat o)), .val (.int (Int32.ofNat len)), .val .null, .val (.ref s.heap.size)] [.int 0, .ref a])) rfl (rest := []) rfl (hb hbytes d48)
  have c14 : Steps p.tables e below (s₁.setTop (entryFrame m #[.ref a, .ref b, .int (Int32.ofNat o), .int (Int32.ofNat len), .null] 6)) (T13.setTop (mkF m 54 #[.val (.ref a), .val (.ref b), .val (.int (Int32.ofNat o)), .val (.int (Int32.ofNat len)), .val .null, .val (.ref s.heap.size)] [.ref s.heap.size, .ref a])) := (c12.trans (st13 _ (Steps.refl _))).trans (by
    refine XS.aloadN X13.here hexec rfl (hb hbytes d51) rfl rfl ?_
    refine XS.aload X13.here hexec rfl (hb hbytes d52) rfl rfl ?_
    exact Steps.refl _)
  obtain ⟨T15, X15, p15, bl15, sl15, st15⟩ := X13.finit hexec hown (wk W (.fieldLink "java/lang/String" 9 "java/lang/String" "value" "[B")) (Or.inr ⟨_, (wk W (.laysFinal "java/lang/String" "java/lang/String" "value" "[B"))⟩) (Or.inl ⟨rfl, hnm⟩) f1 (Or.inl rfl) bl13 (t := (.array .byte)) (by decide +kernel) rfl (g := (mkF m 54 #[.val (.ref a), .val (.ref b), .val (.int (Int32.ofNat o)), .val (.int (Int32.ofNat len)), .val .null, .val (.ref s.heap.size)] [.ref s.heap.size, .ref a])) rfl (rest := []) rfl (hb hbytes d54)
  have c16 : Steps p.tables e below (s₁.setTop (entryFrame m #[.ref a, .ref b, .int (Int32.ofNat o), .int (Int32.ofNat len), .null] 6)) (T15.setTop (mkF m 57 #[.val (.ref a), .val (.ref b), .val (.int (Int32.ofNat o)), .val (.int (Int32.ofNat len)), .val .null, .val (.ref s.heap.size)] [])) := c14.trans (st15 _ (Steps.refl _))
  have ap := apart (Or.inr ⟨_, (wk W (.laysFinal "java/lang/String" "java/lang/String" "value" "[B"))⟩) (Or.inr ⟨_, (wk W (.laysFinal "java/lang/String" "java/lang/String" "coder" "B"))⟩) f1 f2 (t₁ := .array .byte) (t₂ := .byte) (by decide +kernel) (by decide +kernel) (by decide)
  have al := X8.warmed.alike.symm.trans X15.warmed.alike
  have n7 : T11.heap[s.heap.size]? = some N := by rw [q11]; exact n1.1
  exact ⟨T15, none, _, _, _, X15, by simp, rfl, by omega, (fun _ => rfl), ⟨rfl, _, N, bl15, ((Same.refl D _).set _ (by simp)).set _ (by simp), sl15, (Cell.slots_setSlot_ne _ ap).trans sl13, n1.keep al (p15.other hne (p13.other hne n7)), n2, by rw [al.findClass]; exact n3, n4, n5, fun y c h1 h2 => p15.other h1 (p13.other h1 (by rw [q11]; exact n6 y c h2)), by rw [p15.2.2, p13.2.2, q11]; exact z8⟩, fun fs hl => c16.trans (X15.returnOut hexec hret (hb hbytes d57) hl)⟩
end New4
namespace New1
def yN : MethodName := ⟨"java/lang/String", "<init>", "([C)V"⟩
abbrev yB : ByteArray := jdk_42_method_3_code
theorem d0 : decode yB 0 = .ok (.aload_n 0, 1) := by decide +kernel
theorem d1 : decode yB 1 = .ok (.aload_n 1, 1) := by decide +kernel
theorem d2 : decode yB 2 = .ok (.iconst 0, 1) := by decide +kernel
theorem d3 : decode yB 3 = .ok (.aload_n 1, 1) := by decide +kernel
theorem d4 : decode yB 4 = .ok (.arraylength, 1) := by decide +kernel
theorem d5 : decode yB 5 = .ok (.aconst_null, 1) := by decide +kernel
theorem d6 : decode yB 6 = .ok (.invokespecial 27, 3) := by decide +kernel
theorem d9 : decode yB 9 = .ok (.return_, 1) := by decide +kernel
def site : List Cond := [New4.tab] ++ initW "java/lang/String" 27 New4.yN
def tab : Cond := tabOf yN yB 2 none site
def P (a : Addr) (D : Cell) (fV fC : Field) (b : Addr) (A : Cell) (z : Int32) (args : Array Value) (s : State) : Prop := args = #[.ref a, .ref b] ∧ Blank "java/lang/String" a D s ∧ Found "java/lang/String" "value" "[B" fV s ∧ Found "java/lang/String" "coder" "B" fC s ∧ Ch b A s ∧ StaticIs s "java/lang/String" "COMPACT_STRINGS" "Z" (.int z) ∧ ¬ z = 0 ∧ 0 < A.slots.size ∧ A.slots.size ≤ 536870912 ∧ ∀ i, i < A.slots.size → ¬ 255 < cv A i
def E (a : Addr) (D : Cell) (fV fC : Field) (A : Cell) (r : Option Value) (s u : State) : Prop := Got a D fV fC A 0 A.slots.size r s u
/-- new String(chars), not empty, no char above 255: a Latin-1 String of their low bytes -/
theorem law (l : Launch) (a : Addr) (D : Cell) (fV fC : Field) (b : Addr) (A : Cell) (z : Int32) : Law l yN 2 1 3 52 yB 2 none site (P a D fV fC b A z) (E a D fV fC A) [⟨a, fC.slot⟩, ⟨a, fV.slot⟩] 1 A.slots.size := by
  refine Law.of_walk (plainFor_of_name (by decide +kernel)) (by decide +kernel) (by decide +kernel) (by decide) (fun _ _ h => by rw [h.1]; rfl) (fun _ U U' hal hh h => ⟨h.1, h.2.1.mv hal hh, h.2.2.1.al hal, h.2.2.2.1.al hal, h.2.2.2.2.1.mv hal hh, h.2.2.2.2.2.1.there hal hh, h.2.2.2.2.2.2⟩) (fun r U U' V V' h1 hal h2 h => Got.mv r U U' V V' h1 hal h2 h) ?_
  intro p e s m args below meth c s₁ X0 hexec hbytes hml hret hlk hnm hown hh0 W hP
  obtain ⟨rfl, hB, f1, f2, hA, s1, hz, l0, l2, hp⟩ := hP
  have c1 : Steps p.tables e below (s₁.setTop (entryFrame m #[.ref a, .ref b] 2)) (s₁.setTop (mkF m 0 #[.val (.ref a), .val (.ref b)] [])) := entry rfl
  have c2 : Steps p.tables e below (s₁.setTop (entryFrame m #[.ref a, .ref b] 2)) (s₁.setTop (mkF m 6 #[.val (.ref a), .val (.ref b)] [.null, .int (Int32.ofNat A.slots.size), .int 0, .ref b, .ref a])) := c1.trans (by
    refine XS.aloadN X0.here hexec rfl (hb hbytes d0) rfl rfl ?_
    refine XS.aloadN X0.here hexec rfl (hb hbytes d1) rfl rfl ?_
    refine iconstV X0.here hexec rfl 0 (hb hbytes d2) (by decide) ?_
    refine XS.aloadN X0.here hexec rfl (hb hbytes d3) rfl rfl ?_
    refine X0.alen hexec (hA.1.mv X0.warmed.alike hh0) rfl rfl (hb hbytes d4) ?_
    refine XS.aconstNull X0.here hexec rfl (hb hbytes d5) ?_
    exact Steps.refl _)
  obtain ⟨v3, T3, X3, E3, g3⟩ := X0.callN hexec (New4.law l a D fV fC b A z 0 A.slots.size) rfl hown (wks W (initW "java/lang/String" 27 New4.yN)) (W New4.tab (by simp only [site, List.mem_cons, List.mem_append, true_or, or_true])) (W := 0) (Nat.le_of_ble_eq_true rfl) (Nat.le_of_ble_eq_true rfl) (Nat.le_refl _) (by show 0 + A.slots.size ≤ A.slots.size; omega) (g := (mkF m 6 #[.val (.ref a), .val (.ref b)] [.null, .int (Int32.ofNat A.slots.size), .int (Int32.ofNat 0), .ref b, .ref a])) rfl (by rw [hml]; rfl) c2 (argsL := [.ref b, .int (Int32.ofNat 0), .int (Int32.ofNat A.slots.size), .null]) (rest := []) rfl rfl (by show 2 * 0 + 0 ≤ _; decide) (hb hbytes d6) (⟨rfl, hB.mv X0.warmed.alike hh0, f1.al X0.warmed.alike, f2.al X0.warmed.alike, hA.mv X0.warmed.alike hh0, s1.there X0.warmed.alike hh0, hz, l0, by omega, l2, fun i hi => by rw [Nat.zero_add]; exact hp i hi⟩)
  have e0 := Got.mv _ s₁ s _ _ hh0.symm (Vm.Alike.refl _) rfl E3
  obtain rfl := e0.1
  have c4 : Steps p.tables e below (s₁.setTop (entryFrame m #[.ref a, .ref b] 2)) (T3.setTop (mkF m 9 #[.val (.ref a), .val (.ref b)] [])) := g3
  exact ⟨T3, none, _, _, _, X3, by simp, rfl, by omega, (fun _ => rfl), e0, fun fs hl => c4.trans (X3.returnOut hexec hret (hb hbytes d9) hl)⟩
theorem pays {l : Launch} {R : Room} {p : Program} {e : Env} {below : List Frame} {s : State} {sargs : Array Value} {len W : Nat} (a : Addr) (D : Cell) (fV fC : Field) (b : Addr) (A : Cell) (z : Int32) (htab : tab.before sargs s = true) (hfr : 4 ≤ R.frames) (hlo : W + 65 ≤ R.locals) :
    Back l R p e below s sargs yN len W (fun A₁ a₁ => A₁.cells + 1 ≤ R.cells ∧ A₁.slots + A.slots.size ≤ R.slots ∧ P a D fV fC b A z a₁ A₁.U) (fun A₁ _ v₁ B₁ => E a D fV fC A v₁ A₁.U B₁.U ∧ B₁.locs = A₁.locs ++ [⟨a, fC.slot⟩, ⟨a, fV.slot⟩] ∧ B₁.cells = A₁.cells + 1 ∧ B₁.slots = A₁.slots + A.slots.size) :=
  (law l a D fV fC b A z).pays htab hfr (by omega)
end New1
/-- the byte, read back as charAt reads it, is the char -/
theorem lo8_mask {x : Int32} (h0 : ¬ x < 0) (h1 : ¬ 255 < x) : lo8 x &&& 255 = x := by
  have t : ∀ k : Fin 256, lo8 (Int32.ofNat k.val) &&& 255 = Int32.ofNat k.val := by decide +kernel
  rw [Int32.lt_iff_toInt_lt] at h0 h1
  have e0 : (0 : Int32).toInt = 0 := rfl
  have e1 : (255 : Int32).toInt = 255 := rfl
  obtain ⟨k, hk⟩ : ∃ k : Nat, x.toInt = k := ⟨x.toInt.toNat, by omega⟩
  have hx : x = Int32.ofNat k := Int32.toInt_inj.mp (by rw [hk, Int32.toInt_ofNat_small (by omega)])
  rw [hx]
  exact t ⟨k, by omega⟩
end StrChars
namespace StrChars.Road
open Jvm Sem ClassFile Op Lib Jvm.Stand Jvm.Free Jvm.Free.XT
open Jvm.Lib.Cold (StaticIs)
abbrev ST : String := "java/lang/String"
/-- every table word that New1's law asks, flat -/
abbrev words : List Jvm.Cond := [.code New1.yN New1.yB 2 none, .initialized ST, .methodLink ST 27 New4.yN, .instanceMethod New4.yN,
  .code New4.yN New4.yB 6 none, .fieldLink ST 38 ST "COMPACT_STRINGS" "Z", .laysFinal ST ST "value" "[B", .fieldLink ST 9 ST "value" "[B", .laysFinal ST ST "coder" "B", .fieldLink ST 15 ST "coder" "B",
  .methodLink ST 1 Lib.objectInit, .instanceMethod Lib.objectInit, .code Lib.objectInit ⟨#[0xb1]⟩ 1 none, .methodLink ST 177 Cmp3.yN, .static Cmp3.yN, .methodLink ST 47 CodL.yN, .static CodL.yN,
  .code Cmp3.yN Cmp3.yB 6 (some (.array .byte)), .initialized U16, .arrayClass .byte, .methodLink U16 115 Cmp5.yN, .static Cmp5.yN, .code Cmp5.yN Cmp5.yB 7 (some .int), .code CodL.yN CodL.yB 2 (some .byte)]
theorem tab_of {a : Array Value} {s : State} (h : ∀ w ∈ words, w.before a s = true) : New1.tab.before a s = true := by
  have h5 : Cmp5.tab.before a s = true := unparts (wk h (.code Cmp5.yN Cmp5.yB 7 (some .int))) (wks h (.initialized Cmp5.yN.cls :: Cmp5.site))
  have hc : CodL.tab.before a s = true := unparts (wk h (.code CodL.yN CodL.yB 2 (some .byte))) (wks h (.initialized CodL.yN.cls :: CodL.site))
  have q5 : ∀ w ∈ Cmp5.tab :: words, w.before a s = true := fun w hw => (List.mem_cons.mp hw).elim (fun e => e ▸ h5) (h w)
  have h3 : Cmp3.tab.before a s = true := unparts (wk q5 (.code Cmp3.yN Cmp3.yB 6 (some (.array .byte)))) (wks q5 (.initialized Cmp3.yN.cls :: Cmp3.site))
  have q3 : ∀ w ∈ Cmp3.tab :: CodL.tab :: words, w.before a s = true := fun w hw => (List.mem_cons.mp hw).elim (fun e => e ▸ h3) fun hw => (List.mem_cons.mp hw).elim (fun e => e ▸ hc) (h w)
  have h4 : New4.tab.before a s = true := unparts (wk q3 (.code New4.yN New4.yB 6 none)) (wks q3 (.initialized New4.yN.cls :: New4.site))
  have q4 : ∀ w ∈ New4.tab :: words, w.before a s = true := fun w hw => (List.mem_cons.mp hw).elim (fun e => e ▸ h4) (h w)
  exact unparts (wk q4 (.code New1.yN New1.yB 2 none)) (wks q4 (.initialized New1.yN.cls :: New1.site))
/-- the words ride from the start Z to the walk's own state -/
theorem moved {Z s : State} {a0 args : Array Value} (hZ : Z.Warmed39 s.vm) (hw : ∀ d ∈ words, d.before a0 Z = true) : ∀ d ∈ words, d.before args s = true := fun d hd => by
  have q := hw d hd
  have t : ∀ d ∈ words, d = .arrayClass .byte ∨ (d.onTables && d.keepsFace) = true := by decide +kernel
  rcases t d hd with rfl | t
  · exact RoadKit.mvA hZ q
  · exact RoadKit.mv hZ q t
/-- WHAT COMES BACK, over the tables of the start Z: h the heap at the call, h' behind it -/
def Q (Z : State) (x : Addr) (A : Cell) (h : Heap) (v : Option Value) (h' : Heap) (L : List Loc) : Prop := v = none ∧ (∀ y ∈ L, y.base = x) ∧ RoadKit.Keep h h' [x] ∧ h'.size = h.size + 1 ∧ RoadKit.Exa Z h' x ST ∧ RoadKit.Fld Z h' x ST "value" "[B" (.ref h.size) ∧ RoadKit.Fld Z h' x ST "coder" "B" (.int 0) ∧
  (∃ V : Cell, RoadKit.Arr Z h' h.size V .byte ∧ V.vm = .none ∧ Z.vm.findClass "[B" = some V.cls ∧ V.slots.size = A.slots.size ∧ ∀ j, j < A.slots.size → V.slots[j]? = some (.int (lo8 (cv A j)))) ∧
  ∀ (O n d : String) (w : Value), RoadKit.Fld Z h x O n d w → RoadKit.slotOf Z O n d ≠ RoadKit.slotOf Z ST "value" "[B" → RoadKit.slotOf Z O n d ≠ RoadKit.slotOf Z ST "coder" "B" → RoadKit.Fld Z h' x O n d w
/-- **new String(chars) AT A CALL, IN THE ROAD'S FORM**: for specialBack behind newO: x the fresh String, b the char[] with the cell A -/
theorem back {p : Program} {l : Launch} {e : Env} {R : Room} {s : State} {args : Array Value} {below : List Frame} {len W : Nat} {Z : State} {a0 : Array Value} {h : Heap} (hZ : Z.Warmed39 s.vm) (hw : ∀ d ∈ words, d.before a0 Z = true) {kI : Nat} (wi : (Jvm.Cond.instantiable ST kI).before a0 Z = true)
    {x b : Addr} {A : Cell} {z : Int32} {v0 c0 : Value} (E : RoadKit.Exa Z h x ST) (V : RoadKit.Fld Z h x ST "value" "[B" v0) (C : RoadKit.Fld Z h x ST "coder" "B" c0) (K : RoadKit.Arr Z h b A .char) (hty : Typed .char A) (S : RoadKit.Sta Z h ST "COMPACT_STRINGS" "Z" (.int z)) (hz : ¬ z = 0)
    (l0 : 0 < A.slots.size) (l2 : A.slots.size ≤ 536870912) (hp : ∀ i, i < A.slots.size → ¬ 255 < cv A i) (hfr : 4 ≤ R.frames) (hlo : W + 65 ≤ R.locals) :
    Back l R p e below s args New1.yN len W (fun P a => a = #[.ref x, .ref b] ∧ P.U.heap = h ∧ P.cells + 1 ≤ R.cells ∧ P.slots + A.slots.size ≤ R.slots)
      (fun P _ v B => ∃ L, Q Z x A h v B.U.heap L ∧ B.locs = P.locs ++ L ∧ B.cells = P.cells + 1 ∧ B.slots = P.slots + A.slots.size) := by
  intro m meth c P g ig mk a X hg hsize hdg hW hn hp'
  obtain ⟨rfl, rfl, r1, r2⟩ := hp'
  have al : Z.vm.Alike P.U.vm := hZ.alike.trans X.warmed.alike
  obtain ⟨D, cfV, kV, iV, fV, hD, gV, stV, knV, obV, asV, slV⟩ := id V
  obtain ⟨D', cfC, kC, iC, fC, hD', gC, stC, -, -, asC, slC⟩ := id C
  cases hD.symm.trans hD'
  obtain ⟨D2, kD, e1, e2, e3, e4, e5⟩ := id E
  cases hD.symm.trans e1
  obtain ⟨c2, k2, i1, i2, i3, -⟩ := Cond.instantiable_spec wi
  cases e2.symm.trans i1
  cases e3.symm.trans i2
  obtain ⟨kU, u1, u2⟩ := al.2.2 _ _ e3
  have hB : Blank ST x D P.U := ⟨hD, ⟨knV, fun q hq => by rw [hq] at obV; cases obV⟩, by rw [al.findClass]; exact e2, kU, u1, by rw [u2]; exact i3, by rw [u2]; exact e5 i3⟩
  have F1 : Found ST "value" "[B" fV P.U := ⟨SBG.found_only al ⟨cfV, kV, iV, gV⟩, stV⟩
  have F2 : Found ST "coder" "B" fC P.U := ⟨SBG.found_only al ⟨cfC, kC, iC, gC⟩, stC⟩
  have hA : Ch b A P.U := ⟨⟨K.1, State.isArrayOf_alike al K.2.1, K.2.2, by omega⟩, hty⟩
  have hS : StaticIs P.U ST "COMPACT_STRINGS" "Z" (.int z) := by
    obtain ⟨cfS, iS, kS, fS, st, cS, t1, t2, t3, t4, t5, t6, t7⟩ := S
    exact StaticIs.there (s := { Z with heap := P.U.heap }) ⟨cfS, iS, kS, fS, st, cS, t1, t2, t3, t4, t5, (fun q => by rw [q] at t6; cases t6), t7⟩ al rfl
  obtain ⟨v, B, X', ⟨⟨hv, E', V', q1, q2, q3, q4, q5, q6, q7, q8, q9, q10, q11⟩, hl, hc, hs⟩, st⟩ := New1.pays x D fV fC b A z (tab_of (moved hZ hw)) hfr hlo m meth c P g ig mk _ X hg hsize hdg hW hn ⟨r1, r2, rfl, hB, F1, F2, hA, hS, hz, l0, l2, hp⟩
  have al' : Z.vm.Alike B.U.vm := hZ.alike.trans X'.warmed.alike
  have hsz : E'.slots.size = D.slots.size := by
    obtain ⟨-, -, -, kB, w1, w2, w3⟩ := q1
    obtain ⟨kB', y1, y2⟩ := al'.2.2 _ _ e3
    rw [q2.2.1] at w1
    cases w1.symm.trans y1
    rw [w3, e5 i3, y2]
  refine ⟨v, B, X', ⟨_, ⟨hv, ?_, ⟨by omega, fun y cy hy hn' => q10 y cy (by simpa using hn') hy, fun y cy hy => ?_⟩, q11, ⟨E', _, q1.1, by rw [q2.2.1]; exact e2, by rw [q2.2.1]; exact e3, by rw [q2.1]; exact obV, fun _ => by rw [hsz]; exact e5 i3⟩,
    ⟨E', cfV, kV, iV, fV, q1.1, gV, stV, by rw [q2.1]; exact knV, by rw [q2.1]; exact obV, by rw [q2.2.1]; exact asV, q3⟩, ⟨E', cfC, kC, iC, fC, q1.1, gC, stC, by rw [q2.1]; exact knV, by rw [q2.1]; exact obV, by rw [q2.2.1]; exact asC, q4⟩,
    ⟨V', ⟨q5.1, State.isArrayOf_alike al'.symm q5.2.1, q5.2.2.1⟩, q6, by rw [← al'.findClass]; exact q7, q8, fun j hj => by have := q9 j hj; rwa [Nat.zero_add] at this⟩, fun O n d w F n1 n2 => ?_⟩, hl, hc, hs⟩, st⟩
  · intro y hy
    simp only [List.mem_cons, List.not_mem_nil, or_false] at hy
    rcases hy with rfl | rfl <;> rfl
  · by_cases q : y = x
    · subst q
      cases hD.symm.trans hy
      exact ⟨E', q1.1, q2.2.1, q2.1, hsz⟩
    · exact ⟨cy, q10 y cy q hy, rfl, rfl, rfl⟩
  · obtain ⟨D3, cf, k, i, f, g1, g2, g3, g4, g5, g6, g7⟩ := F
    cases hD.symm.trans g1
    simp only [RoadKit.slotOf, g2, gV, gC, Option.map_some, Option.getD_some] at n1 n2
    exact ⟨E', cf, k, i, f, q1.1, g2, g3, by rw [q2.1]; exact g4, by rw [q2.1]; exact g5, by rw [q2.2.1]; exact g6, by rw [q2.2.2 f.slot (by simp [n1, n2])]; exact g7⟩
end StrChars.Road
namespace StrChars.Road
open Jvm Sem ClassFile Op Lib Jvm.Stand Jvm.Free Jvm.Free.XT
/-- WHAT COMES BACK, the byte[] as a list of values -/
def QA (Z : State) (x : Addr) (zn : Int32) (cs : List Int32) (h : Heap) (v : Option Value) (h' : Heap) (L : List Loc) : Prop := v = none ∧ (∀ y ∈ L, y.base = x) ∧ RoadKit.Keep h h' [x] ∧ h'.size = h.size + 1 ∧ RoadKit.Exa Z h' x ST ∧ RoadKit.Fld Z h' x ST "value" "[B" (.ref h.size) ∧ RoadKit.Fld Z h' x ST "coder" "B" (.int 0) ∧
  (∃ kb, Z.vm.findClass "[B" = some kb ∧ RoadKit.Arv Z h' h.size kb .byte zn (cs.map fun c => .int (lo8 c)) (.int 0)) ∧
  ∀ (O n d : String) (w : Value), RoadKit.Fld Z h x O n d w → RoadKit.slotOf Z O n d ≠ RoadKit.slotOf Z ST "value" "[B" → RoadKit.slotOf Z O n d ≠ RoadKit.slotOf Z ST "coder" "B" → RoadKit.Fld Z h' x O n d w
/-- **new String(chars) AT A CALL, THE ARRAYS AS LISTS**: the char[] at b holds cs, not empty, no char above 255 -/
theorem backArv {p : Program} {l : Launch} {e : Env} {R : Room} {s : State} {args : Array Value} {below : List Frame} {len W : Nat} {Z : State} {a0 : Array Value} {h : Heap} (hZ : Z.Warmed39 s.vm) (hw : ∀ d ∈ words, d.before a0 Z = true) {kI : Nat} (wi : (Jvm.Cond.instantiable ST kI).before a0 Z = true)
    {x b : Addr} {k : ClassId} {zn z : Int32} {cs : List Int32} {dv v0 c0 : Value} (E : RoadKit.Exa Z h x ST) (V : RoadKit.Fld Z h x ST "value" "[B" v0) (C : RoadKit.Fld Z h x ST "coder" "B" c0) (K : RoadKit.Arv Z h b k .char zn (cs.map Value.int) dv) (S : RoadKit.Sta Z h ST "COMPACT_STRINGS" "Z" (.int z)) (hz : ¬ z = 0)
    (hlen : zn.toNatClampNeg = cs.length) (h0 : 0 < cs.length) (hbig : cs.length ≤ 536870912) (hall : ∀ c ∈ cs, ¬ 255 < c) (hfr : 4 ≤ R.frames) (hlo : W + 65 ≤ R.locals) :
    Back l R p e below s args New1.yN len W (fun P a => a = #[.ref x, .ref b] ∧ P.U.heap = h ∧ P.cells + 1 ≤ R.cells ∧ P.slots + cs.length ≤ R.slots)
      (fun P _ v B => ∃ L, QA Z x zn cs h v B.U.heap L ∧ B.locs = P.locs ++ L ∧ B.cells = P.cells + 1 ∧ B.slots = P.slots + cs.length) := by
  obtain ⟨A, K1, K2, K3, K4, K5, K6⟩ := K
  have e : A.slots.size = cs.length := K3.trans hlen
  have hat : ∀ (i : Nat) (hi : i < cs.length), A.slots[i]? = some (.int cs[i]) := fun i hi => by rw [K5 i (by omega)]; simp [List.getD_eq_getElem?_getD, hi]
  have hcv : ∀ (i : Nat) (hi : i < cs.length), cv A i = cs[i] := fun i hi => by unfold cv; rw [hat i hi]
  have hty : Typed .char A := fun i v hv => by
    have hi : i < A.slots.size := (Array.getElem?_eq_some_iff.mp hv).1
    have q := K5 i hi
    rw [hv] at q
    rw [Option.some.inj q]
    exact K6 i hi
  refine Back.mono (back hZ hw wi E V C K1 hty S hz (by omega) (by omega) (fun i hi => by rw [hcv i (by omega)]; exact hall _ (List.getElem_mem _)) hfr hlo) (fun P a hp => ⟨hp.1, hp.2.1, hp.2.2.1, by rw [e]; exact hp.2.2.2⟩) (fun P a v B hp hq => ?_)
  obtain ⟨L, ⟨q1, q2, q3, q4, q5, q6, q7, ⟨V', v1, v2, v3, v4, v5⟩, q9⟩, hl, hc, hs⟩ := hq
  refine ⟨L, ⟨q1, q2, q3, q4, q5, q6, q7, ⟨V'.cls, v3, V', v1, rfl, by rw [v4, e, hlen], K4, fun i hi => ?_, fun i hi => ?_⟩, q9⟩, hl, hc, by rw [hs, e]⟩
  · have hi' : i < cs.length := by omega
    rw [v5 i (by omega), hcv i hi']; simp [List.getD_eq_getElem?_getD, hi']
  · have hi' : i < cs.length := by omega
    simp only [List.getD_eq_getElem?_getD, List.getElem?_map, List.getElem?_eq_getElem hi', Option.map_some, Option.getD_some]
    exact fits_lo8 _
end StrChars.Road
namespace StrChars.Road
open Jvm Sem ClassFile Op Lib Jvm.Stand Jvm.Free Jvm.Free.XT
/-- WHAT COMES BACK, in the writer's own shape -/
def QV (Z : State) (x : Addr) (N : Int32) (bs : List Int32) (h : Heap) (n0 : Nat) (v : Option Value) (h' : Heap) (L : List Loc) : Prop := v = none ∧ RoadKit.Fr n0 L ∧ RoadKit.Keep h h' [x] ∧ RoadKit.Exa Z h' x ST ∧ RoadKit.Fld Z h' x ST "coder" "B" (.int 0) ∧
  ∃ (t : Addr) (kb : ClassId), n0 ≤ t ∧ h.size ≤ t ∧ ¬ t = x ∧ RoadKit.Fld Z h' x ST "value" "[B" (.ref t) ∧ RoadKit.Arv Z h' t kb .byte N (bs.map Value.int) (.int 0)
/-- **new String(chars) AT A CALL, FOR THE WRITER**: a char[] of n known ints, each 0 to 255 -/
theorem backV {p : Program} {l : Launch} {e : Env} {R : Room} {s : State} {args : Array Value} {below : List Frame} {len W : Nat} {Z : State} {a0 : Array Value} {h : Heap} (hZ : Z.Warmed39 s.vm) (hw : ∀ d ∈ words, d.before a0 Z = true) {kI : Nat} (wi : (Jvm.Cond.instantiable ST kI).before a0 Z = true)
    {x b : Addr} {kC : ClassId} {cs bs : List Int32} {d v0 c0 : Value} {z N : Int32} {n n0 : Nat} (hx0 : n0 ≤ x) (hh0 : n0 ≤ h.size) (E : RoadKit.Exa Z h x ST) (V : RoadKit.Fld Z h x ST "value" "[B" v0) (C : RoadKit.Fld Z h x ST "coder" "B" c0) (K : RoadKit.Arv Z h b kC .char N (cs.map Value.int) d) (S : RoadKit.Sta Z h ST "COMPACT_STRINGS" "Z" (.int z)) (hz : ¬ z = 0)
    (hn : cs.length = n) (hN : N = Int32.ofNat n) (l0 : 0 < n) (l2 : n ≤ 4000) (hp : ∀ c ∈ cs, ¬ c < 0 ∧ ¬ (255 : Int32) < c) (hb : bs = cs.map (fun c => c.toInt8.toInt32)) (hfr : 4 ≤ R.frames) (hlo : W + 65 ≤ R.locals) :
    Back l R p e below s args (⟨"java/lang/String", "<init>", "([C)V"⟩ : MethodName) len W (fun P a => a = #[.ref x, .ref b] ∧ P.U.heap = h ∧ P.cells + 1 ≤ R.cells ∧ P.slots + n ≤ R.slots)
      (fun P _ v B => ∃ L, QV Z x N bs h n0 v B.U.heap L ∧ B.locs = P.locs ++ L ∧ B.cells = P.cells + 1 ∧ B.slots = P.slots + n) := by
  subst hn hN hb
  refine Back.mono (backArv hZ hw wi E V C K S hz (n32 (by omega)) l0 (by omega) (fun c hc => (hp c hc).2) hfr hlo) (fun P a hp => hp) (fun P a v B hp hq => ?_)
  obtain ⟨L, ⟨q1, q2, q3, q4, q5, q6, q7, ⟨kb, v1, v2⟩, q9⟩, hl, hc, hs⟩ := hq
  exact ⟨L, ⟨q1, fun y hy => by rw [q2 y hy]; exact hx0, q3, q5, q7, h.size, kb, hh0, Nat.le_refl _, Nat.ne_of_gt E.lt, q6, by rw [List.map_map]; exact v2⟩, hl, hc, hs⟩
end StrChars.Road
namespace StrChars
open Jvm Sem ClassFile Op Lib Jvm.Stand Jvm.Free.XT Jvm.Free.ALB Jvm.Free.JM Jvm.Free
open Jvm.Lib.Cold (StaticIs)
def hi8 (x : Int32) : Int32 := lo8 (x >>> ((8 : Int32) &&& 31))
/-- what StringUTF16.getChar makes of two bytes -/
def pairCh (u v : Int32) : Int32 := (((u &&& 255) <<< ((0 : Int32) &&& 31)) ||| ((v &&& 255) <<< ((8 : Int32) &&& 31))).toUInt32.toUInt16.toUInt32.toInt32
theorem lo8_and (x : Int32) : (lo8 x &&& 255).toBitVec.toNat = x.toBitVec.toNat % 256 := by
  have h : (lo8 x).toBitVec = (x.toBitVec.signExtend 8).signExtend 32 := by rw [lo8, Int8.toBitVec_toInt32, Int32.toBitVec_toInt8]
  rw [Int32.toBitVec_and, BitVec.toNat_and, h]
  have e : ((x.toBitVec.signExtend 8).signExtend 32).toNat % 256 = x.toBitVec.toNat % 256 := by
    rw [BitVec.toNat_signExtend]
    have hlt := x.toBitVec.isLt
    simp only [BitVec.toNat_setWidth, BitVec.toNat_signExtend]
    split <;> split <;> omega
  rw [← e]
  exact Nat.and_two_pow_sub_one_eq_mod _ 8
theorem pair_says {c : Int32} (h0 : ¬ c < 0) (h1 : ¬ 65535 < c) : pairCh (lo8 c) (hi8 c) = c := by
  rw [Int32.lt_iff_toInt_lt] at h0 h1
  have e0 : (0 : Int32).toInt = 0 := rfl
  have e1 : (65535 : Int32).toInt = 65535 := rfl
  have hc : c.toInt = c.toBitVec.toNat := by
    have := c.toBitVec.isLt
    have e : c.toInt = c.toBitVec.toInt := rfl
    rw [e] at h0 h1
    rw [e]
    rw [BitVec.toInt_eq_toNat_cond] at h0 h1 ⊢
    split at h0 <;> split <;> omega
  have hn : c.toBitVec.toNat < 65536 := by omega
  have a1 := lo8_and c
  have a2 : (hi8 c &&& 255).toBitVec.toNat = c.toBitVec.toNat / 256 := by
    rw [hi8, lo8_and]
    have e : ((8 : Int32) &&& 31) = 8 := by decide
    rw [e, Int32.toBitVec_shiftRight]
    have e2 : ((8 : Int32).toBitVec.smod 32) = 8#32 := by decide
    rw [e2, BitVec.sshiftRight_eq', BitVec.toNat_sshiftRight_of_msb_false (by rw [BitVec.msb_eq_false_iff_two_mul_lt]; omega)]
    show c.toBitVec.toNat >>> 8 % 256 = _
    rw [Nat.shiftRight_eq_div_pow]
    omega
  unfold pairCh
  apply Int32.toBitVec_inj.mp
  apply BitVec.eq_of_toNat_eq
  have f0 : ((0 : Int32) &&& 31) = 0 := by decide
  have f8 : ((8 : Int32) &&& 31) = 8 := by decide
  rw [f0, f8]
  have g : (((lo8 c &&& 255) <<< (0 : Int32)) ||| ((hi8 c &&& 255) <<< (8 : Int32))).toBitVec.toNat = c.toBitVec.toNat := by
    rw [Int32.toBitVec_or, Int32.toBitVec_shiftLeft, Int32.toBitVec_shiftLeft]
    have s0 : ((0 : Int32).toBitVec.smod 32) = 0#32 := by decide
    have s8 : ((8 : Int32).toBitVec.smod 32) = 8#32 := by decide
    rw [s0, s8, BitVec.toNat_or]
    simp only [BitVec.shiftLeft_eq', BitVec.toNat_shiftLeft, a1, a2]
    show (c.toBitVec.toNat % 256) <<< 0 % 2 ^ 32 ||| (c.toBitVec.toNat / 256) <<< 8 % 2 ^ 32 = _
    rw [Nat.shiftLeft_zero, Nat.mod_eq_of_lt (show c.toBitVec.toNat % 256 < 2 ^ 32 by omega), Nat.mod_eq_of_lt (show (c.toBitVec.toNat / 256) <<< 8 < 2 ^ 32 by rw [Nat.shiftLeft_eq]; omega), Nat.or_comm, ← Nat.shiftLeft_add_eq_or_of_lt (by omega), Nat.shiftLeft_eq]
    omega
  show BitVec.toNat (((((lo8 c &&& 255) <<< (0 : Int32)) ||| ((hi8 c &&& 255) <<< (8 : Int32))).toBitVec.setWidth 16).setWidth 32) = _
  rw [BitVec.toNat_setWidth, BitVec.toNat_setWidth, g]
  omega
end StrChars
namespace StrChars
open Jvm Sem ClassFile Op Lib Jvm.Stand Jvm.Free.XT Jvm.Free.ALB Jvm.Free.JM Jvm.Free
open Jvm.Lib.Cold (StaticIs)
/-- the array's cell V codes the n chars f 0 .. f (n - 1) by the coder cd, as the JDK does: coder 1 just where some char is above 255 -/
def Cod (cd : Int32) (n : Nat) (f : Nat → Int32) (V : Cell) : Prop := (cd = 0 ∧ V.slots.size = n ∧ ∀ j, j < n → V.slots[j]? = some (.int (lo8 (f j))) ∧ ¬ 255 < f j) ∨ (cd = 1 ∧ V.slots.size = 2 * n ∧ (∀ j, j < n → V.slots[2 * j]? = some (.int (lo8 (f j))) ∧ V.slots[2 * j + 1]? = some (.int (hi8 (f j)))) ∧ ∃ j, j < n ∧ 255 < f j)
/-- **x is a String of the n chars f 0 .. f (n - 1)**, Latin-1 or UTF-16; its array at t has the cell V -/
def Txt (x t : Addr) (V : Cell) (cd : Int32) (n : Nat) (f : Nat → Int32) (U : State) : Prop := Exact "java/lang/String" x U ∧ Has x "java/lang/String" "value" "[B" (.ref t) U ∧ Has x "java/lang/String" "coder" "B" (.int cd) U ∧ XT.Arr .byte t V U ∧ Cod cd n f V ∧ ∀ j, j < n → ¬ f j < 0 ∧ ¬ 65535 < f j
theorem Txt.mv {x t : Addr} {V : Cell} {cd : Int32} {n : Nat} {f : Nat → Int32} {U U' : State} (h : Txt x t V cd n f U) (hal : U.vm.Alike U'.vm) (hh : U'.heap = U.heap) : Txt x t V cd n f U' := ⟨h.1.mv hal hh, h.2.1.mv hal hh, h.2.2.1.mv hal hh, h.2.2.2.1.mv hal hh, h.2.2.2.2⟩
end StrChars
namespace StrChars.Road
open Jvm Sem ClassFile Op Lib Jvm.Stand Jvm.Free Jvm.Free.XT
open Jvm.Lib.Cold (StaticIs)
theorem consq {a : Array Value} {s : State} {c : Jvm.Cond} {L : List Jvm.Cond} (h0 : c.before a s = true) (h : ∀ w ∈ L, w.before a s = true) : ∀ w ∈ c :: L, w.before a s = true := fun w hw => (List.mem_cons.mp hw).elim (fun e => e ▸ h0) (h w)
/-- the bytes of the chars cs, low before high -/
def wideBytes : List Int32 → List Value
  | [] => []
  | c :: cs => .int (lo8 c) :: .int (hi8 c) :: wideBytes cs
theorem wide_lo (d : Value) : ∀ (cs : List Int32) (j : Nat), j < cs.length → (wideBytes cs).getD (2 * j) d = .int (lo8 (cs.getD j 0))
  | [], j, h => absurd h (Nat.not_lt_zero j)
  | c :: cs, 0, _ => rfl
  | c :: cs, j + 1, h => by
    have q := wide_lo d cs j (by simpa using h)
    rw [show 2 * (j + 1) = 2 * j + 1 + 1 from by omega]
    simpa [wideBytes] using q
theorem wide_hi (d : Value) : ∀ (cs : List Int32) (j : Nat), j < cs.length → (wideBytes cs).getD (2 * j + 1) d = .int (hi8 (cs.getD j 0))
  | [], j, h => absurd h (Nat.not_lt_zero j)
  | c :: cs, 0, _ => rfl
  | c :: cs, j + 1, h => by
    have q := wide_hi d cs j (by simpa using h)
    rw [show 2 * (j + 1) + 1 = 2 * j + 1 + 1 + 1 from by omega]
    simpa [wideBytes] using q
theorem low_at (d : Value) (cs : List Int32) (j : Nat) (h : j < cs.length) : (cs.map fun c => Value.int (lo8 c)).getD j d = .int (lo8 (cs.getD j 0)) := by
  simp [List.getD_eq_getElem?_getD, h]
/-- an array of N2 bytes vs codes the chars cs by the coder cd -/
def CodA (cs : List Int32) (cd N2 : Int32) (vs : List Value) : Prop := (cd = 0 ∧ N2 = Int32.ofNat cs.length ∧ vs = (cs.map fun c => Value.int (lo8 c)) ∧ ∀ c ∈ cs, ¬ 255 < c) ∨ (cd = 1 ∧ N2 = Int32.ofNat (2 * cs.length) ∧ vs = wideBytes cs ∧ ∃ c ∈ cs, 255 < c)
theorem CodA.cod {cs : List Int32} {cd N2 : Int32} {vs : List Value} {V : Cell} (h : CodA cs cd N2 vs) (hn : 2 * cs.length < 2 ^ 31) (hs : V.slots.size = N2.toNatClampNeg) (hv : RoadKit.Has V vs (.int 0)) : Cod cd cs.length (fun j => cs.getD j 0) V := by
  rcases h with ⟨rfl, rfl, rfl, h⟩ | ⟨rfl, rfl, rfl, c, hc, hw⟩
  · rw [n32 (by omega)] at hs
    exact Or.inl ⟨rfl, hs, fun j hj => ⟨by rw [hv j (by omega), low_at _ _ _ hj], by
      have e : cs.getD j 0 = cs[j] := by simp [List.getD_eq_getElem?_getD, hj]
      show ¬ 255 < cs.getD j 0
      rw [e]; exact h _ (List.getElem_mem _)⟩⟩
  · rw [n32 (by omega)] at hs
    obtain ⟨j, hj, rfl⟩ := List.getElem_of_mem hc
    exact Or.inr ⟨rfl, hs, fun j hj => ⟨by rw [hv _ (by omega), wide_lo _ _ _ hj], by rw [hv _ (by omega), wide_hi _ _ _ hj]⟩, j, hj, by
      have e : cs.getD j 0 = cs[j] := by simp [List.getD_eq_getElem?_getD, hj]
      show 255 < cs.getD j 0
      rw [e]; exact hw⟩
/-- an object of exactly java/lang/String, its two fields found: as the laws ask it -/
theorem strObj {Z U : State} {a0 : Array Value} {kI : Nat} (wi : (Jvm.Cond.instantiable ST kI).before a0 Z = true) (al : Z.vm.Alike U.vm) {x : Addr} {v0 c0 : Value} (E : RoadKit.Exa Z U.heap x ST) (V : RoadKit.Fld Z U.heap x ST "value" "[B" v0) (C : RoadKit.Fld Z U.heap x ST "coder" "B" c0) :
    ∃ (D : Cell) (fV fC : Field), Blank ST x D U ∧ Found ST "value" "[B" fV U ∧ Found ST "coder" "B" fC U ∧ D.slots[fV.slot]? = some v0 ∧ D.slots[fC.slot]? = some c0 ∧ RoadKit.slotOf Z ST "value" "[B" = fV.slot ∧ RoadKit.slotOf Z ST "coder" "B" = fC.slot := by
  obtain ⟨D, cfV, kV, iV, fV, hD, gV, stV, knV, obV, asV, slV⟩ := V
  obtain ⟨D', cfC, kC, iC, fC, hD', gC, stC, -, -, asC, slC⟩ := C
  cases hD.symm.trans hD'
  obtain ⟨D2, kD, e1, e2, e3, e4, e5⟩ := E
  cases hD.symm.trans e1
  obtain ⟨c2, k2, i1, i2, i3, -⟩ := Cond.instantiable_spec wi
  cases e2.symm.trans i1
  cases e3.symm.trans i2
  obtain ⟨kU, u1, u2⟩ := al.2.2 _ _ e3
  exact ⟨D, fV, fC, ⟨hD, ⟨knV, fun q hq => by rw [hq] at obV; cases obV⟩, by rw [al.findClass]; exact e2, kU, u1, by rw [u2]; exact i3, by rw [u2]; exact e5 i3⟩, ⟨SBG.found_only al ⟨cfV, kV, iV, gV⟩, stV⟩, ⟨SBG.found_only al ⟨cfC, kC, iC, gC⟩, stC⟩, slV, slC, by simp [RoadKit.slotOf, gV], by simp [RoadKit.slotOf, gC]⟩
theorem sta_is {Z U : State} (al : Z.vm.Alike U.vm) {C n d : String} {v : Value} (S : RoadKit.Sta Z U.heap C n d v) : StaticIs U C n d v := by
  obtain ⟨cfS, iS, kS, fS, st, cS, t1, t2, t3, t4, t5, t6, t7⟩ := S
  exact StaticIs.there (s := { Z with heap := U.heap }) ⟨cfS, iS, kS, fS, st, cS, t1, t2, t3, t4, t5, (fun q => by rw [q] at t6; cases t6), t7⟩ al rfl
end StrChars.Road
namespace StrChars
open Jvm Sem ClassFile Op Lib Jvm.Stand Jvm.Free.XT Jvm.Free.ALB Jvm.Free.JM Jvm.Free
open Jvm.Lib.Cold (StaticIs)
/-- what place i of a byte[]'s cell holds -/
def yv (A : Cell) (i : Nat) : Int32 := match A.slots[i]? with | some (.int x) => x | _ => 0
theorem yv_get {a : Addr} {A : Cell} {U : State} (h : XT.Arr .byte a A U) (ht : Typed .byte A) {i : Nat} (hi : i < A.slots.size) : A.slots[i]? = some (.int (yv A i)) := by
  have e := Array.getElem?_eq_getElem hi
  have f := ht i _ e
  unfold yv; rw [e]
  generalize A.slots[i] = v at f
  cases v <;> simp [fits] at f ⊢
/-- the two arrays are equal, place for place -/
def EqC (A B : Cell) : Prop := A.slots.size = B.slots.size ∧ ∀ i, i < A.slots.size → yv A i = yv B i
/-- a boolean that says whether p -/
def Says01 (q : Prop) (r : Option Value) (s u : State) : Prop := ∃ v : Int32, r = some (.int v) ∧ u.heap = s.heap ∧ ((v = 1 ∧ q) ∨ (v = 0 ∧ ¬ q))
theorem Says01.mv {q : Prop} : ∀ r (U U' V V' : State), U'.heap = U.heap → V.vm.Alike V'.vm → V'.heap = V.heap → Says01 q r U V → Says01 q r U' V' :=
  fun r U U' V V' h1 _ h2 ⟨v, a, b, c⟩ => ⟨v, a, by rw [h1, h2]; exact b, c⟩
namespace LEq
def yN : MethodName := ⟨"java/lang/StringLatin1", "equals", "([B[B)Z"⟩
abbrev yB : ByteArray := jdk_43_method_13_code
theorem d0 : decode yB 0 = .ok (.aload_n 0, 1) := by decide +kernel
theorem d1 : decode yB 1 = .ok (.arraylength, 1) := by decide +kernel
theorem d2 : decode yB 2 = .ok (.aload_n 1, 1) := by decide +kernel
theorem d3 : decode yB 3 = .ok (.arraylength, 1) := by decide +kernel
theorem d4 : decode yB 4 = .ok (.if_icmp (.ne) 30, 3) := by decide +kernel
theorem d7 : decode yB 7 = .ok (.iconst 0, 1) := by decide +kernel
theorem d8 : decode yB 8 = .ok (.istore_n 2, 1) := by decide +kernel
theorem d9 : decode yB 9 = .ok (.iload_n 2, 1) := by decide +kernel
theorem d10 : decode yB 10 = .ok (.aload_n 0, 1) := by decide +kernel
theorem d11 : decode yB 11 = .ok (.arraylength, 1) := by decide +kernel
theorem d12 : decode yB 12 = .ok (.if_icmp (.ge) 20, 3) := by decide +kernel
theorem d15 : decode yB 15 = .ok (.aload_n 0, 1) := by decide +kernel
theorem d16 : decode yB 16 = .ok (.iload_n 2, 1) := by decide +kernel
theorem d17 : decode yB 17 = .ok (.baload, 1) := by decide +kernel
theorem d18 : decode yB 18 = .ok (.aload_n 1, 1) := by decide +kernel
theorem d19 : decode yB 19 = .ok (.iload_n 2, 1) := by decide +kernel
theorem d20 : decode yB 20 = .ok (.baload, 1) := by decide +kernel
theorem d21 : decode yB 21 = .ok (.if_icmp (.eq) 5, 3) := by decide +kernel
theorem d24 : decode yB 24 = .ok (.iconst 0, 1) := by decide +kernel
theorem d25 : decode yB 25 = .ok (.ireturn, 1) := by decide +kernel
theorem d26 : decode yB 26 = .ok (.iinc 2 1, 3) := by decide +kernel
theorem d29 : decode yB 29 = .ok (.goto (-20), 3) := by decide +kernel
theorem d32 : decode yB 32 = .ok (.iconst 1, 1) := by decide +kernel
theorem d33 : decode yB 33 = .ok (.ireturn, 1) := by decide +kernel
theorem d34 : decode yB 34 = .ok (.iconst 0, 1) := by decide +kernel
theorem d35 : decode yB 35 = .ok (.ireturn, 1) := by decide +kernel
def site : List Cond := []
def tab : Cond := tabOf yN yB 3 (some .boolean) site
def P (a : Addr) (A : Cell) (b : Addr) (B : Cell) (args : Array Value) (s : State) : Prop := args = #[.ref a, .ref b] ∧ XT.Arr .byte a A s ∧ Typed .byte A ∧ XT.Arr .byte b B s ∧ Typed .byte B
/-- whether two byte[] are equal, place for place -/
theorem law (l : Launch) (a : Addr) (A : Cell) (b : Addr) (B : Cell) : Law l yN 2 2 0 0 yB 3 (some .boolean) site (P a A b B) (Says01 (EqC A B)) [] 0 0 := by
  refine Law.of_walk (plainFor_of_name (by decide +kernel)) (by decide +kernel) (by decide +kernel) (by decide) (fun _ _ h => by rw [h.1]; rfl) (fun _ U U' hal hh h => ⟨h.1, h.2.1.mv hal hh, h.2.2.1, h.2.2.2.1.mv hal hh, h.2.2.2.2⟩) (fun r U U' V V' h1 hal h2 h => Says01.mv r U U' V V' h1 hal h2 h) ?_
  intro p e s m args below meth c s₁ X0 hexec hbytes hml hret hlk hnm hown hh0 W hP
  obtain ⟨rfl, hA, tA, hB, tB⟩ := hP
  have a31 := hA.2.2.2
  have b31 := hB.2.2.2
  have hA0 := hA.mv X0.warmed.alike hh0
  have hB0 := hB.mv X0.warmed.alike hh0
  have c1 : Steps p.tables e below (s₁.setTop (entryFrame m #[.ref a, .ref b] 3)) (s₁.setTop (mkF m 0 #[.val (.ref a), .val (.ref b), .unset] [])) := entry rfl
  have c2 : Steps p.tables e below (s₁.setTop (entryFrame m #[.ref a, .ref b] 3)) (s₁.setTop (mkF m 4 #[.val (.ref a), .val (.ref b), .unset] [.int (Int32.ofNat B.slots.size), .int (Int32.ofNat A.slots.size)])) := c1.trans (by
    refine XS.aloadN X0.here hexec rfl (hb hbytes d0) rfl rfl ?_
    refine X0.alen hexec hA0 rfl rfl (hb hbytes d1) ?_
    refine XS.aloadN X0.here hexec rfl (hb hbytes d2) rfl rfl ?_
    refine X0.alen hexec hB0 rfl rfl (hb hbytes d3) ?_
    exact Steps.refl _)
  by_cases hs : A.slots.size = B.slots.size
  · have c3 : Steps p.tables e below (s₁.setTop (entryFrame m #[.ref a, .ref b] 3)) (s₁.setTop (mkF m 9 #[.val (.ref a), .val (.ref b), .val (.int 0)] [])) := c2.trans (by
      refine XS.icmpNo X0.here hexec rfl (hb hbytes d4) rfl (ii_ne_f (by rw [hs])) ?_
      refine iconstV X0.here hexec rfl 0 (hb hbytes d7) (by decide) ?_
      refine XS.istoreN X0.here hexec rfl (hb hbytes d8) rfl rfl ?_
      exact Steps.refl _)
    have loop : ∀ (r i : Nat), i + r = A.slots.size → (∀ j, j < i → yv A j = yv B j) → Steps p.tables e below (s₁.setTop (entryFrame m #[.ref a, .ref b] 3)) (s₁.setTop (mkF m 9 #[.val (.ref a), .val (.ref b), .val (.int (Int32.ofNat i))] [])) → ∃ (pc : Nat) (Ls : Array Slot) (v : Int32), (pc = 25 ∨ pc = 33) ∧ ((v = 1 ∧ EqC A B) ∨ (v = 0 ∧ ¬ EqC A B)) ∧ Steps p.tables e below (s₁.setTop (entryFrame m #[.ref a, .ref b] 3)) (s₁.setTop (mkF m pc Ls [.int v])) := by
      intro r
      induction r with
      | zero =>
        intro i hi he cl
        exact ⟨33, _, 1, Or.inr rfl, Or.inl ⟨rfl, hs, fun j hj => he j (by omega)⟩, cl.trans (by
          refine XS.iloadN X0.here hexec rfl (hb hbytes d9) rfl ?_
          refine XS.aloadN X0.here hexec rfl (hb hbytes d10) rfl rfl ?_
          refine X0.alen hexec hA0 rfl rfl (hb hbytes d11) ?_
          refine XS.icmpYes X0.here hexec rfl (pc0 := 12) rfl (hb hbytes d12) rfl (ii_ge_t (nlt32 (by omega) (by omega))) (by decide) rfl ?_
          refine iconstV X0.here hexec rfl 1 (hb hbytes d32) (by decide) ?_
          exact Steps.refl _)⟩
      | succ r ih =>
        intro i hi he cl
        have c4 : Steps p.tables e below (s₁.setTop (entryFrame m #[.ref a, .ref b] 3)) (s₁.setTop (mkF m 21 #[.val (.ref a), .val (.ref b), .val (.int (Int32.ofNat i))] [.int (yv B i), .int (yv A i)])) := cl.trans (by
          refine XS.iloadN X0.here hexec rfl (hb hbytes d9) rfl ?_
          refine XS.aloadN X0.here hexec rfl (hb hbytes d10) rfl rfl ?_
          refine X0.alen hexec hA0 rfl rfl (hb hbytes d11) ?_
          refine XS.icmpNo X0.here hexec rfl (hb hbytes d12) rfl (ii_ge_f (lt32 (by omega) (by omega))) ?_
          refine XS.aloadN X0.here hexec rfl (hb hbytes d15) rfl rfl ?_
          refine XS.iloadN X0.here hexec rfl (hb hbytes d16) rfl ?_
          refine X0.aget hexec hA0 rfl (yv_get hA tA (i := i) (by omega)) rfl rfl (hb hbytes d17) ?_
          refine XS.aloadN X0.here hexec rfl (hb hbytes d18) rfl rfl ?_
          refine XS.iloadN X0.here hexec rfl (hb hbytes d19) rfl ?_
          refine X0.aget hexec hB0 rfl (yv_get hB tB (i := i) (by omega)) rfl rfl (hb hbytes d20) ?_
          exact Steps.refl _)
        by_cases hv : yv A i = yv B i
        · have c5 : Steps p.tables e below (s₁.setTop (entryFrame m #[.ref a, .ref b] 3)) (s₁.setTop (mkF m 9 #[.val (.ref a), .val (.ref b), .val (.int (Int32.ofNat i + 1))] [])) := c4.trans (by
            refine XS.icmpYes X0.here hexec rfl (pc0 := 21) rfl (hb hbytes d21) rfl (ii_eq_t hv) (by decide) rfl ?_
            refine iincV X0.here hexec rfl 1 (hb hbytes d26) (by decide) rfl rfl ?_
            refine XS.goto X0.here hexec rfl (pc0 := 29) rfl (hb hbytes d29) (by decide) rfl ?_
            exact Steps.refl _)
          rw [succ32] at c5
          exact ih (i + 1) (by omega) (fun j hj => by
            by_cases e : j = i
            · rw [e]; exact hv
            · exact he j (by omega)) c5
        · exact ⟨25, _, 0, Or.inl rfl, Or.inr ⟨rfl, fun q => hv (q.2 i (by omega))⟩, c4.trans (by
            refine XS.icmpNo X0.here hexec rfl (hb hbytes d21) rfl (ii_eq_f hv) ?_
            refine iconstV X0.here hexec rfl 0 (hb hbytes d24) (by decide) ?_
            exact Steps.refl _)⟩
    obtain ⟨pc, Ls, v, hpc, hv, cz⟩ := loop A.slots.size 0 (by omega) (fun j hj => absurd hj (Nat.not_lt_zero j)) c3
    have nv : narrow .boolean (.int v) = .int v := by rcases hv with ⟨rfl, -⟩ | ⟨rfl, -⟩ <;> rfl
    rcases hpc with rfl | rfl
    · exact ⟨s₁, some (.int v), _, _, _, X0, rfl, rfl, rfl, (fun h => by cases h), ⟨v, rfl, hh0, hv⟩, fun fs hl => cz.trans (X0.ireturnOut hexec hret nv (Or.inr (Or.inl rfl)) (hb hbytes d25) hl)⟩
    · exact ⟨s₁, some (.int v), _, _, _, X0, rfl, rfl, rfl, (fun h => by cases h), ⟨v, rfl, hh0, hv⟩, fun fs hl => cz.trans (X0.ireturnOut hexec hret nv (Or.inr (Or.inl rfl)) (hb hbytes d33) hl)⟩
  · have c3 : Steps p.tables e below (s₁.setTop (entryFrame m #[.ref a, .ref b] 3)) (s₁.setTop (mkF m 35 #[.val (.ref a), .val (.ref b), .unset] [.int 0])) := c2.trans (by
      refine XS.icmpYes X0.here hexec rfl (pc0 := 4) rfl (hb hbytes d4) rfl (ii_ne_t (ne32 a31 b31 hs)) (by decide) rfl ?_
      refine iconstV X0.here hexec rfl 0 (hb hbytes d34) (by decide) ?_
      exact Steps.refl _)
    exact ⟨s₁, some (.int 0), _, _, _, X0, rfl, rfl, rfl, (fun h => by cases h), ⟨0, rfl, hh0, Or.inr ⟨rfl, fun q => hs q.1⟩⟩, fun fs hl => c3.trans (X0.ireturnOut hexec hret rfl (Or.inr (Or.inl rfl)) (hb hbytes d35) hl)⟩
end LEq
theorem Cod.ty {cd : Int32} {n : Nat} {f : Nat → Int32} {V : Cell} (h : Cod cd n f V) : Typed .byte V := fun i v hv => by
  have hi : i < V.slots.size := (Array.getElem?_eq_some_iff.mp hv).1
  rcases h with ⟨-, k1, k2⟩ | ⟨-, k1, k2, -⟩
  · rw [(k2 i (by omega)).1] at hv; cases hv; exact fits_lo8 _
  · rcases Nat.mod_two_eq_zero_or_one i with e | e
    · obtain ⟨j, rfl⟩ : ∃ j, i = 2 * j := ⟨i / 2, by omega⟩
      rw [(k2 j (by omega)).1] at hv; cases hv; exact fits_lo8 _
    · obtain ⟨j, rfl⟩ : ∃ j, i = 2 * j + 1 := ⟨i / 2, by omega⟩
      rw [(k2 j (by omega)).2] at hv; cases hv; exact fits_lo8 _
/-- the same text -/
def SameT (n : Nat) (f : Nat → Int32) (k : Nat) (g : Nat → Int32) : Prop := n = k ∧ ∀ j, j < n → f j = g j
theorem lo8_inj {x y : Int32} (h0 : ¬ x < 0) (h1 : ¬ 255 < x) (k0 : ¬ y < 0) (k1 : ¬ 255 < y) (h : lo8 x = lo8 y) : x = y := by
  rw [← lo8_mask h0 h1, ← lo8_mask k0 k1, h]
/-- arrays coded by one coder are equal just where the texts are -/
theorem Cod.eqv {cd : Int32} {n k : Nat} {f g : Nat → Int32} {V V' : Cell} (h : Cod cd n f V) (h' : Cod cd k g V') (hf : ∀ j, j < n → ¬ f j < 0 ∧ ¬ 65535 < f j) (hg : ∀ j, j < k → ¬ g j < 0 ∧ ¬ 65535 < g j) : EqC V V' ↔ SameT n f k g := by
  have yvv : ∀ {W : Cell} {i : Nat} {x : Int32}, W.slots[i]? = some (.int x) → yv W i = x := fun q => by unfold yv; rw [q]
  rcases h with ⟨rfl, k1, k2⟩ | ⟨rfl, k1, k2, -⟩
  · rcases h' with ⟨-, m1, m2⟩ | ⟨e, -⟩
    · constructor
      · rintro ⟨e1, e2⟩
        refine ⟨by omega, fun j hj => ?_⟩
        have q := e2 j (by omega)
        rw [yvv (k2 j hj).1, yvv (m2 j (by omega)).1] at q
        exact lo8_inj (hf j hj).1 (k2 j hj).2 (hg j (by omega)).1 (m2 j (by omega)).2 q
      · rintro ⟨rfl, e2⟩
        refine ⟨by omega, fun j hj => ?_⟩
        rw [yvv (k2 j (by omega)).1, yvv (m2 j (by omega)).1, e2 j (by omega)]
    · exact absurd e (by decide)
  · rcases h' with ⟨e, -⟩ | ⟨-, m1, m2, -⟩
    · exact absurd e (by decide)
    · constructor
      · rintro ⟨e1, e2⟩
        refine ⟨by omega, fun j hj => ?_⟩
        have q1 := e2 (2 * j) (by omega)
        have q2 := e2 (2 * j + 1) (by omega)
        rw [yvv (k2 j hj).1, yvv (m2 j (by omega)).1] at q1
        rw [yvv (k2 j hj).2, yvv (m2 j (by omega)).2] at q2
        rw [← pair_says (hf j hj).1 (hf j hj).2, ← pair_says (hg j (by omega)).1 (hg j (by omega)).2, q1, q2]
      · rintro ⟨rfl, e2⟩
        refine ⟨by omega, fun i hi => ?_⟩
        rcases Nat.mod_two_eq_zero_or_one i with e | e
        · obtain ⟨j, rfl⟩ : ∃ j, i = 2 * j := ⟨i / 2, by omega⟩
          rw [yvv (k2 j (by omega)).1, yvv (m2 j (by omega)).1, e2 j (by omega)]
        · obtain ⟨j, rfl⟩ : ∃ j, i = 2 * j + 1 := ⟨i / 2, by omega⟩
          rw [yvv (k2 j (by omega)).2, yvv (m2 j (by omega)).2, e2 j (by omega)]
/-- two codings differ: so do the texts -/
theorem Cod.dif {cd cd' : Int32} {n k : Nat} {f g : Nat → Int32} {V V' : Cell} (h : Cod cd n f V) (h' : Cod cd' k g V') (hne : ¬ cd = cd') : ¬ SameT n f k g := by
  rintro ⟨rfl, e⟩
  rcases h with ⟨rfl, -, k2⟩ | ⟨rfl, -, -, j, hj, hw⟩
  · rcases h' with ⟨rfl, -⟩ | ⟨-, -, -, j, hj, hw⟩
    · exact hne rfl
    · exact (k2 j hj).2 (by rw [e j hj]; exact hw)
  · rcases h' with ⟨-, -, m2⟩ | ⟨rfl, -⟩
    · exact (m2 j hj).2 (by rw [← e j hj]; exact hw)
    · exact hne rfl
/-- an object of exactly C is an instance of C -/
theorem cinst {p : Program} {l : Launch} {e : Env} {R : Room} {s : State} {m : MethodId} {args : Array Value} {below : List Frame} {meth : Method} {c : Code} {T : State} {locs : List Loc} {cells slots : Nat} (X : Stand p l e R s m args below meth c T locs cells slots) (hexec : p.tables.exec = Jvm.exec) {own C : String} {index : Nat} (hown : s.vm.findClass own = some m.cls) (hlink : (Cond.classLink own index C).before args s = true) {a : Addr} (hE : Exact C a T)
    {g : JFrame} (hg : g.method = m) {rest : List Value} (hstack : g.stack = .ref a :: rest) (hdg : decode c.code g.pc = .ok (.instanceof index, 3)) :
    ∃ T', Stand p l e R s m args below meth c T' locs cells slots ∧ T'.heap = T.heap ∧ ∀ target, Steps p.tables e below (T'.setTop { g with pc := g.pc + 3, stack := .int 1 :: rest }) target → Steps p.tables e below (T.setTop g) target := by
  obtain ⟨cB, h1, D, h2, h3, h4⟩ := hE
  have h1' : s.vm.findClass C = some cB := by rw [← X.warmed.alike.findClass]; exact h1
  obtain ⟨vm', X', st⟩ := X.instanceofYes hexec hown hlink h2 h4 h1' (by rw [h3]; exact Jvm.Free.SB.assignable_self _ _) hg hstack hdg
  exact ⟨_, X', rfl, st⟩
theorem cself {p : Program} {l : Launch} {e : Env} {R : Room} {s : State} {m : MethodId} {args : Array Value} {below : List Frame} {meth : Method} {c : Code} {T : State} {locs : List Loc} {cells slots : Nat} (X : Stand p l e R s m args below meth c T locs cells slots) (hexec : p.tables.exec = Jvm.exec) {own C : String} {index : Nat} (hown : s.vm.findClass own = some m.cls) (hlink : (Cond.classLink own index C).before args s = true) {a : Addr} (hE : Exact C a T)
    {g : JFrame} (hg : g.method = m) {rest : List Value} (hstack : g.stack = .ref a :: rest) (hdg : decode c.code g.pc = .ok (.checkcast index, 3)) :
    ∃ T', Stand p l e R s m args below meth c T' locs cells slots ∧ T'.heap = T.heap ∧ ∀ target, Steps p.tables e below (T'.setTop { g with pc := g.pc + 3, stack := .ref a :: rest }) target → Steps p.tables e below (T.setTop g) target := by
  obtain ⟨cB, h1, D, h2, h3, h4⟩ := hE
  have h1' : s.vm.findClass C = some cB := by rw [← X.warmed.alike.findClass]; exact h1
  obtain ⟨vm', X', st⟩ := X.checkcastYes hexec hown hlink h2 h4 h1' (by rw [h3]; exact Jvm.Free.SB.assignable_self _ _) hg hstack hdg
  exact ⟨_, X', rfl, fun t h => st t (by rw [← hstack] at h; exact h)⟩
namespace SEq
def yN : MethodName := ⟨"java/lang/String", "equals", "(Ljava/lang/Object;)Z"⟩
abbrev yB : ByteArray := jdk_42_method_66_code
theorem d0 : decode yB 0 = .ok (.aload_n 0, 1) := by decide +kernel
theorem d1 : decode yB 1 = .ok (.aload_n 1, 1) := by decide +kernel
theorem d2 : decode yB 2 = .ok (.if_acmp (.ne) 5, 3) := by decide +kernel
theorem d5 : decode yB 5 = .ok (.iconst 1, 1) := by decide +kernel
theorem d6 : decode yB 6 = .ok (.ireturn, 1) := by decide +kernel
theorem d7 : decode yB 7 = .ok (.aload_n 1, 1) := by decide +kernel
theorem d8 : decode yB 8 = .ok (.instanceof 10, 3) := by decide +kernel
theorem d11 : decode yB 11 = .ok (.ifCond (.eq) 43, 3) := by decide +kernel
theorem d14 : decode yB 14 = .ok (.aload_n 1, 1) := by decide +kernel
theorem d15 : decode yB 15 = .ok (.checkcast 10, 3) := by decide +kernel
theorem d18 : decode yB 18 = .ok (.astore_n 2, 1) := by decide +kernel
theorem d19 : decode yB 19 = .ok (.getstatic 38, 3) := by decide +kernel
theorem d22 : decode yB 22 = .ok (.ifCond (.eq) 14, 3) := by decide +kernel
theorem d25 : decode yB 25 = .ok (.aload_n 0, 1) := by decide +kernel
theorem d26 : decode yB 26 = .ok (.getfield 15, 3) := by decide +kernel
theorem d29 : decode yB 29 = .ok (.aload_n 2, 1) := by decide +kernel
theorem d30 : decode yB 30 = .ok (.getfield 15, 3) := by decide +kernel
theorem d33 : decode yB 33 = .ok (.if_icmp (.ne) 21, 3) := by decide +kernel
theorem d36 : decode yB 36 = .ok (.aload_n 0, 1) := by decide +kernel
theorem d37 : decode yB 37 = .ok (.getfield 9, 3) := by decide +kernel
theorem d40 : decode yB 40 = .ok (.aload_n 2, 1) := by decide +kernel
theorem d41 : decode yB 41 = .ok (.getfield 9, 3) := by decide +kernel
theorem d44 : decode yB 44 = .ok (.invokestatic 541, 3) := by decide +kernel
theorem d47 : decode yB 47 = .ok (.ifCond (.eq) 7, 3) := by decide +kernel
theorem d50 : decode yB 50 = .ok (.iconst 1, 1) := by decide +kernel
theorem d51 : decode yB 51 = .ok (.goto 4, 3) := by decide +kernel
theorem d54 : decode yB 54 = .ok (.iconst 0, 1) := by decide +kernel
theorem d55 : decode yB 55 = .ok (.ireturn, 1) := by decide +kernel
def site : List Cond := [.classLink "java/lang/String" 10 "java/lang/String", .fieldLink "java/lang/String" 38 "java/lang/String" "COMPACT_STRINGS" "Z", .fieldLink "java/lang/String" 15 "java/lang/String" "coder" "B", .fieldLink "java/lang/String" 9 "java/lang/String" "value" "[B", LEq.tab] ++ staticW "java/lang/String" 541 LEq.yN
def tab : Cond := tabOf yN yB 3 (some .boolean) site
def P (x t : Addr) (V : Cell) (cd : Int32) (n : Nat) (f : Nat → Int32) (y t' : Addr) (V' : Cell) (cd' : Int32) (k : Nat) (g : Nat → Int32) (z : Int32) (args : Array Value) (s : State) : Prop := args = #[.ref x, .ref y] ∧ Txt x t V cd n f s ∧ Txt y t' V' cd' k g s ∧ StaticIs s "java/lang/String" "COMPACT_STRINGS" "Z" (.int z) ∧ ¬ z = 0
/-- equals(Object) of two Strings: whether the texts are the same -/
theorem law (l : Launch) (x t : Addr) (V : Cell) (cd : Int32) (n : Nat) (f : Nat → Int32) (y t' : Addr) (V' : Cell) (cd' : Int32) (k : Nat) (g : Nat → Int32) (z : Int32) : Law l yN 2 1 1 14 yB 3 (some .boolean) site (P x t V cd n f y t' V' cd' k g z) (Says01 (SameT n f k g)) [] 0 0 := by
  refine Law.of_walk (plainFor_of_name (by decide +kernel)) (by decide +kernel) (by decide +kernel) (by decide) (fun _ _ h => by rw [h.1]; rfl) (fun _ U U' hal hh h => ⟨h.1, h.2.1.mv hal hh, h.2.2.1.mv hal hh, h.2.2.2.1.there hal hh, h.2.2.2.2⟩) (fun r U U' V V' h1 hal h2 h => Says01.mv r U U' V V' h1 hal h2 h) ?_
  intro p e s m args below meth c s₁ X0 hexec hbytes hml hret hlk hnm hown hh0 W hP
  obtain ⟨rfl, hx, hy, s1, hz⟩ := hP
  have c1 : Steps p.tables e below (s₁.setTop (entryFrame m #[.ref x, .ref y] 3)) (s₁.setTop (mkF m 2 #[.val (.ref x), .val (.ref y), .unset] [.ref y, .ref x])) := Steps.trans (entry rfl) (by
    show Steps p.tables e below (s₁.setTop (mkF m 0 #[.val (.ref x), .val (.ref y), .unset] [])) _
    refine XS.aloadN X0.here hexec rfl (hb hbytes d0) rfl rfl ?_
    refine XS.aloadN X0.here hexec rfl (hb hbytes d1) rfl rfl ?_
    exact Steps.refl _)
  by_cases hxy : x = y
  · have c2 : Steps p.tables e below (s₁.setTop (entryFrame m #[.ref x, .ref y] 3)) (s₁.setTop (mkF m 6 #[.val (.ref x), .val (.ref y), .unset] [.int 1])) := c1.trans (by
      refine acmpNo X0.here hexec rfl (hb hbytes d2) rfl rfl rfl (by simp [acmp, hxy]) ?_
      refine iconstV X0.here hexec rfl 1 (hb hbytes d5) (by decide) ?_
      exact Steps.refl _)
    subst hxy
    have ec : cd = cd' := by
      obtain ⟨D, fd, a1, a2, a3⟩ := hx.2.2.1
      obtain ⟨D', fd', b1, b2, b3⟩ := hy.2.2.1
      cases a1.symm.trans b1
      obtain ⟨q1, q2, q3, q4⟩ := a2.1
      obtain ⟨r1, r2, r3, r4⟩ := b2.1
      cases q4.symm.trans r4
      cases a3.symm.trans b3; rfl
    have et : t = t' := by
      obtain ⟨D, fd, a1, a2, a3⟩ := hx.2.1
      obtain ⟨D', fd', b1, b2, b3⟩ := hy.2.1
      cases a1.symm.trans b1
      obtain ⟨q1, q2, q3, q4⟩ := a2.1
      obtain ⟨r1, r2, r3, r4⟩ := b2.1
      cases q4.symm.trans r4
      cases a3.symm.trans b3; rfl
    subst ec et
    have ev : V = V' := by cases hx.2.2.2.1.1.symm.trans hy.2.2.2.1.1; rfl
    subst ev
    have hs : SameT n f k g := (Cod.eqv hx.2.2.2.2.1 hy.2.2.2.2.1 hx.2.2.2.2.2 hy.2.2.2.2.2).mp ⟨rfl, fun _ _ => rfl⟩
    exact ⟨s₁, some (.int 1), _, _, _, X0, rfl, rfl, rfl, (fun h => by cases h), ⟨1, rfl, hh0, Or.inl ⟨rfl, hs⟩⟩, fun fs hl => c2.trans (X0.ireturnOut hexec hret rfl (Or.inr (Or.inl rfl)) (hb hbytes d6) hl)⟩
  · have c2 : Steps p.tables e below (s₁.setTop (entryFrame m #[.ref x, .ref y] 3)) (s₁.setTop (mkF m 8 #[.val (.ref x), .val (.ref y), .unset] [.ref y])) := c1.trans (by
      refine acmpYes X0.here hexec rfl (pc0 := 2) rfl (hb hbytes d2) rfl rfl rfl (by simp [acmp, hxy]) (by decide) rfl ?_
      refine XS.aloadN X0.here hexec rfl (hb hbytes d7) rfl rfl ?_
      exact Steps.refl _)
    obtain ⟨T3, X3, q3, st3⟩ := cinst X0 hexec hown (wk W (.classLink "java/lang/String" 10 "java/lang/String")) (hy.mv X0.warmed.alike hh0).1 (g := (mkF m 8 #[.val (.ref x), .val (.ref y), .unset] [.ref y])) rfl (rest := []) rfl (hb hbytes d8)
    have hh3 := q3.trans hh0
    have c4 : Steps p.tables e below (s₁.setTop (entryFrame m #[.ref x, .ref y] 3)) (T3.setTop (mkF m 15 #[.val (.ref x), .val (.ref y), .unset] [.ref y])) := (c2.trans (st3 _ (Steps.refl _))).trans (by
      refine XS.ifNo X3.here hexec rfl (hb hbytes d11) rfl (i0_eq_f (by decide)) ?_
      refine XS.aloadN X3.here hexec rfl (hb hbytes d14) rfl rfl ?_
      exact Steps.refl _)
    obtain ⟨T5, X5, q5, st5⟩ := cself X3 hexec hown (wk W (.classLink "java/lang/String" 10 "java/lang/String")) (hy.mv X3.warmed.alike hh3).1 (g := (mkF m 15 #[.val (.ref x), .val (.ref y), .unset] [.ref y])) rfl (rest := []) rfl (hb hbytes d15)
    have hh5 := q5.trans hh3
    have c6 : Steps p.tables e below (s₁.setTop (entryFrame m #[.ref x, .ref y] 3)) (T5.setTop (mkF m 19 #[.val (.ref x), .val (.ref y), .val (.ref y)] [])) := (c4.trans (st5 _ (Steps.refl _))).trans (by
      refine XS.astoreN X5.here hexec rfl (hb hbytes d18) rfl rfl rfl ?_
      exact Steps.refl _)
    obtain ⟨T7, X7, q7, st7⟩ := X5.sget hexec hown (wk W (.fieldLink "java/lang/String" 38 "java/lang/String" "COMPACT_STRINGS" "Z")) s1 (fun _ _ h => by rw [hh5]; exact h) (g := (mkF m 19 #[.val (.ref x), .val (.ref y), .val (.ref y)] [])) rfl (hb hbytes d19)
    have hh7 := q7.trans hh5
    have c8 : Steps p.tables e below (s₁.setTop (entryFrame m #[.ref x, .ref y] 3)) (T7.setTop (mkF m 26 #[.val (.ref x), .val (.ref y), .val (.ref y)] [.ref x])) := (c6.trans (st7 _ (Steps.refl _))).trans (by
      refine XS.ifNo X7.here hexec rfl (hb hbytes d22) rfl (i0_eq_f hz) ?_
      refine XS.aloadN X7.here hexec rfl (hb hbytes d25) rfl rfl ?_
      exact Steps.refl _)
    obtain ⟨T9, X9, q9, st9⟩ := X7.hget hexec hown (wk W (.fieldLink "java/lang/String" 15 "java/lang/String" "coder" "B")) (hx.mv X7.warmed.alike hh7).2.2.1 (g := (mkF m 26 #[.val (.ref x), .val (.ref y), .val (.ref y)] [.ref x])) rfl (rest := []) rfl (hb hbytes d26)
    have hh9 := q9.trans hh7
    have c10 : Steps p.tables e below (s₁.setTop (entryFrame m #[.ref x, .ref y] 3)) (T9.setTop (mkF m 30 #[.val (.ref x), .val (.ref y), .val (.ref y)] [.ref y, .int cd])) := (c8.trans (st9 _ (Steps.refl _))).trans (by
      refine XS.aloadN X9.here hexec rfl (hb hbytes d29) rfl rfl ?_
      exact Steps.refl _)
    obtain ⟨T11, X11, q11, st11⟩ := X9.hget hexec hown (wk W (.fieldLink "java/lang/String" 15 "java/lang/String" "coder" "B")) (hy.mv X9.warmed.alike hh9).2.2.1 (g := (mkF m 30 #[.val (.ref x), .val (.ref y), .val (.ref y)] [.ref y, .int cd])) rfl (rest := [.int cd]) rfl (hb hbytes d30)
    have hh11 := q11.trans hh9
    have c12 : Steps p.tables e below (s₁.setTop (entryFrame m #[.ref x, .ref y] 3)) (T11.setTop (mkF m 33 #[.val (.ref x), .val (.ref y), .val (.ref y)] [.int cd', .int cd])) := c10.trans (st11 _ (Steps.refl _))
    by_cases hcd : cd = cd'
    · subst hcd
      have c13 : Steps p.tables e below (s₁.setTop (entryFrame m #[.ref x, .ref y] 3)) (T11.setTop (mkF m 37 #[.val (.ref x), .val (.ref y), .val (.ref y)] [.ref x])) := c12.trans (by
        refine XS.icmpNo X11.here hexec rfl (hb hbytes d33) rfl (ii_ne_f rfl) ?_
        refine XS.aloadN X11.here hexec rfl (hb hbytes d36) rfl rfl ?_
        exact Steps.refl _)
      obtain ⟨T14, X14, q14, st14⟩ := X11.hget hexec hown (wk W (.fieldLink "java/lang/String" 9 "java/lang/String" "value" "[B")) (hx.mv X11.warmed.alike hh11).2.1 (g := (mkF m 37 #[.val (.ref x), .val (.ref y), .val (.ref y)] [.ref x])) rfl (rest := []) rfl (hb hbytes d37)
      have hh14 := q14.trans hh11
      have c15 : Steps p.tables e below (s₁.setTop (entryFrame m #[.ref x, .ref y] 3)) (T14.setTop (mkF m 41 #[.val (.ref x), .val (.ref y), .val (.ref y)] [.ref y, .ref t])) := (c13.trans (st14 _ (Steps.refl _))).trans (by
        refine XS.aloadN X14.here hexec rfl (hb hbytes d40) rfl rfl ?_
        exact Steps.refl _)
      obtain ⟨T16, X16, q16, st16⟩ := X14.hget hexec hown (wk W (.fieldLink "java/lang/String" 9 "java/lang/String" "value" "[B")) (hy.mv X14.warmed.alike hh14).2.1 (g := (mkF m 41 #[.val (.ref x), .val (.ref y), .val (.ref y)] [.ref y, .ref t])) rfl (rest := [.ref t]) rfl (hb hbytes d41)
      have hh16 := q16.trans hh14
      have c17 : Steps p.tables e below (s₁.setTop (entryFrame m #[.ref x, .ref y] 3)) (T16.setTop (mkF m 44 #[.val (.ref x), .val (.ref y), .val (.ref y)] [.ref t', .ref t])) := c15.trans (st16 _ (Steps.refl _))
      obtain ⟨v18, T18, X18, E18, g18⟩ := X16.callS hexec (LEq.law l t V t' V') hown (wks W (staticW "java/lang/String" 541 LEq.yN)) (wk W LEq.tab) (W := 0) (Nat.le_of_ble_eq_true rfl) (Nat.le_of_ble_eq_true rfl) (Nat.le_refl _) (Nat.le_refl _) (g := (mkF m 44 #[.val (.ref x), .val (.ref y), .val (.ref y)] [.ref t', .ref t])) rfl (by rw [hml]; rfl) c17 (argsL := [.ref t, .ref t']) (rest := []) rfl rfl (by show 2 * 0 + 0 ≤ _; decide) (hb hbytes d44) (⟨rfl, hx.2.2.2.1.mv X16.warmed.alike hh16, hx.2.2.2.2.1.ty, hy.2.2.2.1.mv X16.warmed.alike hh16, hy.2.2.2.2.1.ty⟩)
      obtain ⟨v, rfl, q18, hv⟩ := E18
      have iff := Cod.eqv hx.2.2.2.2.1 hy.2.2.2.2.1 hx.2.2.2.2.2 hy.2.2.2.2.2
      rcases hv with ⟨rfl, he⟩ | ⟨rfl, he⟩
      · have c19 : Steps p.tables e below (s₁.setTop (entryFrame m #[.ref x, .ref y] 3)) (T18.setTop (mkF m 55 #[.val (.ref x), .val (.ref y), .val (.ref y)] [.int 1])) := Steps.trans g18 (by
          refine XS.ifNo X18.here hexec rfl (hb hbytes d47) rfl (i0_eq_f (by decide)) ?_
          refine iconstV X18.here hexec rfl 1 (hb hbytes d50) (by decide) ?_
          refine XS.goto X18.here hexec rfl (pc0 := 51) rfl (hb hbytes d51) (by decide) rfl ?_
          exact Steps.refl _)
        exact ⟨T18, some (.int 1), _, _, _, X18, rfl, rfl, rfl, (fun h => by cases h), ⟨1, rfl, q18.trans hh16, Or.inl ⟨rfl, iff.mp he⟩⟩, fun fs hl => c19.trans (X18.ireturnOut hexec hret rfl (Or.inr (Or.inl rfl)) (hb hbytes d55) hl)⟩
      · have c19 : Steps p.tables e below (s₁.setTop (entryFrame m #[.ref x, .ref y] 3)) (T18.setTop (mkF m 55 #[.val (.ref x), .val (.ref y), .val (.ref y)] [.int 0])) := Steps.trans g18 (by
          refine XS.ifYes X18.here hexec rfl (pc0 := 47) rfl (hb hbytes d47) rfl (i0_eq_t rfl) (by decide) rfl ?_
          refine iconstV X18.here hexec rfl 0 (hb hbytes d54) (by decide) ?_
          exact Steps.refl _)
        exact ⟨T18, some (.int 0), _, _, _, X18, rfl, rfl, rfl, (fun h => by cases h), ⟨0, rfl, q18.trans hh16, Or.inr ⟨rfl, fun q => he (iff.mpr q)⟩⟩, fun fs hl => c19.trans (X18.ireturnOut hexec hret rfl (Or.inr (Or.inl rfl)) (hb hbytes d55) hl)⟩
    · have c13 : Steps p.tables e below (s₁.setTop (entryFrame m #[.ref x, .ref y] 3)) (T11.setTop (mkF m 55 #[.val (.ref x), .val (.ref y), .val (.ref y)] [.int 0])) := c12.trans (by
        refine XS.icmpYes X11.here hexec rfl (pc0 := 33) rfl (hb hbytes d33) rfl (ii_ne_t hcd) (by decide) rfl ?_
        refine iconstV X11.here hexec rfl 0 (hb hbytes d54) (by decide) ?_
        exact Steps.refl _)
      exact ⟨T11, some (.int 0), _, _, _, X11, rfl, rfl, rfl, (fun h => by cases h), ⟨0, rfl, hh11, Or.inr ⟨rfl, Cod.dif hx.2.2.2.2.1 hy.2.2.2.2.1 hcd⟩⟩, fun fs hl => c13.trans (X11.ireturnOut hexec hret rfl (Or.inr (Or.inl rfl)) (hb hbytes d55) hl)⟩
theorem pays {l : Launch} {R : Room} {p : Program} {e : Env} {below : List Frame} {s : State} {sargs : Array Value} {len W : Nat} (x t : Addr) (V : Cell) (cd : Int32) (n : Nat) (f : Nat → Int32) (y t' : Addr) (V' : Cell) (cd' : Int32) (k : Nat) (g : Nat → Int32) (z : Int32) (htab : tab.before sargs s = true) (hfr : 2 ≤ R.frames) (hlo : W + 28 ≤ R.locals) :
    Back l R p e below s sargs yN len W (fun A₁ a₁ => A₁.cells + 0 ≤ R.cells ∧ A₁.slots + 0 ≤ R.slots ∧ P x t V cd n f y t' V' cd' k g z a₁ A₁.U) (fun A₁ _ v₁ B₁ => Says01 (SameT n f k g) v₁ A₁.U B₁.U ∧ B₁.locs = A₁.locs ++ [] ∧ B₁.cells = A₁.cells + 0 ∧ B₁.slots = A₁.slots + 0) :=
  (law l x t V cd n f y t' V' cd' k g z).pays htab hfr (by omega)
end SEq
end StrChars
namespace StrChars.Road
open Jvm Sem ClassFile Op Lib Jvm.Stand Jvm.Free Jvm.Free.XT
open Jvm.Lib.Cold (StaticIs)
/-- the words of String.equals(Object) -/
abbrev wordsEq : List Jvm.Cond := [.code SEq.yN SEq.yB 3 (some .boolean), .initialized ST, .classLink ST 10 ST, .fieldLink ST 38 ST "COMPACT_STRINGS" "Z", .fieldLink ST 15 ST "coder" "B", .fieldLink ST 9 ST "value" "[B", .methodLink ST 541 LEq.yN, .static LEq.yN, .code LEq.yN LEq.yB 3 (some .boolean), .initialized "java/lang/StringLatin1"]
theorem tabEq_of {a : Array Value} {s : State} (h : ∀ w ∈ wordsEq, w.before a s = true) : SEq.tab.before a s = true := by
  have hl : LEq.tab.before a s = true := unparts (wk h (.code LEq.yN LEq.yB 3 (some .boolean))) (wks h (.initialized LEq.yN.cls :: LEq.site))
  have q := consq hl h
  exact unparts (wk q (.code SEq.yN SEq.yB 3 (some .boolean))) (wks q (.initialized SEq.yN.cls :: SEq.site))
theorem movedEq {Z s : State} {a0 args : Array Value} (hZ : Z.Warmed39 s.vm) (hw : ∀ d ∈ wordsEq, d.before a0 Z = true) : ∀ d ∈ wordsEq, d.before args s = true := fun d hd => by
  have t : ∀ d ∈ wordsEq, (d.onTables && d.keepsFace) = true := by decide +kernel
  exact RoadKit.mv hZ (hw d hd) (t d hd)
/-- the road's facts of a String, as the laws ask it -/
theorem txt_of {Z U : State} {a0 : Array Value} {kI : Nat} (wi : (Jvm.Cond.instantiable ST kI).before a0 Z = true) (al : Z.vm.Alike U.vm) {x t : Addr} {kb : ClassId} {cs : List Int32} {cd N2 : Int32} {vs : List Value} (E : RoadKit.Exa Z U.heap x ST) (V : RoadKit.Fld Z U.heap x ST "value" "[B" (.ref t)) (C : RoadKit.Fld Z U.heap x ST "coder" "B" (.int cd)) (K : RoadKit.Arv Z U.heap t kb .byte N2 vs (.int 0)) (hc : CodA cs cd N2 vs) (hb : ∀ c ∈ cs, ¬ c < 0 ∧ ¬ (65535 : Int32) < c) (l2 : cs.length ≤ 4000) :
    ∃ A, Txt x t A cd cs.length (fun j => cs.getD j 0) U := by
  obtain ⟨A, K1, K2, K3, K4, K5, K6⟩ := K
  have hcod := hc.cod (by omega) K3 K5
  obtain ⟨D, fV, fC, hB, F1, F2, g1, g2, -, -⟩ := strObj wi al E V C
  exact ⟨A, ⟨_, hB.2.2.1, D, hB.1, rfl, by cases q : D.vm <;> first | rfl | exact absurd q (hB.2.1.2 _)⟩, Has.of hB F1 g1, Has.of hB F2 g2, ⟨K1.1, State.isArrayOf_alike al K1.2.1, K1.2.2, by rcases hcod with ⟨-, q, -⟩ | ⟨-, q, -⟩ <;> omega⟩, hcod, fun j hj => by
    have e : cs.getD j 0 = cs[j] := by simp [List.getD_eq_getElem?_getD, hj]
    show ¬ cs.getD j 0 < 0 ∧ ¬ 65535 < cs.getD j 0
    rw [e]; exact hb _ (List.getElem_mem _)⟩
theorem same_list (cs ds : List Int32) : SameT cs.length (fun j => cs.getD j 0) ds.length (fun j => ds.getD j 0) ↔ cs = ds := by
  constructor
  · rintro ⟨e, q⟩
    refine List.ext_getElem e fun j h1 h2 => ?_
    have := q j h1
    simpa [List.getD_eq_getElem?_getD, h1, h2] using this
  · rintro rfl
    exact ⟨rfl, fun _ _ => rfl⟩
/-- **equals(Object) OF TWO SUCH STRINGS**: 1 just where the chars are the same -/
theorem eqW {p : Program} {l : Launch} {e : Env} {R : Room} {s : State} {args : Array Value} {below : List Frame} {len W : Nat} {Z : State} {a0 : Array Value} {h : Heap} (hZ : Z.Warmed39 s.vm) (hw : ∀ d ∈ wordsEq, d.before a0 Z = true) {kI : Nat} (wi : (Jvm.Cond.instantiable ST kI).before a0 Z = true)
    {x t : Addr} {kb : ClassId} {cs : List Int32} {cd N2 : Int32} {vs : List Value} (E : RoadKit.Exa Z h x ST) (V : RoadKit.Fld Z h x ST "value" "[B" (.ref t)) (C : RoadKit.Fld Z h x ST "coder" "B" (.int cd)) (K : RoadKit.Arv Z h t kb .byte N2 vs (.int 0)) (hc : CodA cs cd N2 vs) (hb : ∀ c ∈ cs, ¬ c < 0 ∧ ¬ (65535 : Int32) < c) (l2 : cs.length ≤ 4000)
    {y t' : Addr} {kb' : ClassId} {ds : List Int32} {cd' N2' : Int32} {vs' : List Value} (E' : RoadKit.Exa Z h y ST) (V' : RoadKit.Fld Z h y ST "value" "[B" (.ref t')) (C' : RoadKit.Fld Z h y ST "coder" "B" (.int cd')) (K' : RoadKit.Arv Z h t' kb' .byte N2' vs' (.int 0)) (hc' : CodA ds cd' N2' vs') (hb' : ∀ c ∈ ds, ¬ c < 0 ∧ ¬ (65535 : Int32) < c) (l2' : ds.length ≤ 4000)
    {z : Int32} (S : RoadKit.Sta Z h ST "COMPACT_STRINGS" "Z" (.int z)) (hz : ¬ z = 0) (hfr : 2 ≤ R.frames) (hlo : W + 28 ≤ R.locals) :
    Back l R p e below s args (⟨"java/lang/String", "equals", "(Ljava/lang/Object;)Z"⟩ : MethodName) len W (fun P a => a = #[.ref x, .ref y] ∧ P.U.heap = h ∧ P.cells + 0 ≤ R.cells ∧ P.slots + 0 ≤ R.slots)
      (fun P _ v B => ∃ L, (((v = some (.int 1) ∧ cs = ds) ∨ (v = some (.int 0) ∧ ¬ cs = ds)) ∧ L = [] ∧ B.U.heap = h) ∧ B.locs = P.locs ++ L ∧ B.cells = P.cells + 0 ∧ B.slots = P.slots + 0) := by
  intro m meth c P g ig mk a X hg hsize hdg hW hn hp'
  obtain ⟨rfl, rfl, r1, r2⟩ := hp'
  have al : Z.vm.Alike P.U.vm := hZ.alike.trans X.warmed.alike
  obtain ⟨A, hx⟩ := txt_of wi al E V C K hc hb l2
  obtain ⟨A', hy⟩ := txt_of wi al E' V' C' K' hc' hb' l2'
  obtain ⟨v, B, X', ⟨⟨w, hv, hh, hq⟩, hl, hk, hs⟩, st⟩ := SEq.pays x t A cd cs.length (fun j => cs.getD j 0) y t' A' cd' ds.length (fun j => ds.getD j 0) z (tabEq_of (movedEq hZ hw)) hfr hlo m meth c P g ig mk _ X hg hsize hdg hW hn ⟨r1, r2, rfl, hx, hy, sta_is al S, hz⟩
  refine ⟨v, B, X', ⟨[], ⟨?_, rfl, hh⟩, hl, hk, hs⟩, st⟩
  rcases hq with ⟨rfl, q⟩ | ⟨rfl, q⟩
  · exact Or.inl ⟨hv, (same_list cs ds).mp q⟩
  · exact Or.inr ⟨hv, fun e => q ((same_list cs ds).mpr e)⟩
end StrChars.Road
namespace StrChars.Road
open Jvm Sem ClassFile Op Lib Jvm.Stand Jvm.Free Jvm.Free.XT
open Jvm.Lib.Cold (StaticIs)
/-- what backV says of its String, as the contracts of this text ask it: cs's low bytes, coder 0 -/
theorem codOf {cs : List Int32} {n : Nat} (hn : cs.length = n) (hb : ∀ c ∈ cs, ¬ 255 < c) : CodA cs 0 (Int32.ofNat n) ((cs.map lo8).map Value.int) := Or.inl ⟨rfl, by rw [hn], by simp [List.map_map, Function.comp_def], hb⟩
end StrChars.Road
end Jvm.Pilot.@@N@@
namespace Jvm.Pilot.@@N@@
open Jvm Jvm.ClassFile Sem Op Lib Jvm.Free Jvm.Stand Jvm.LawKit Jvm.RoadKit Jvm.OwnKit Bundle Jvm.Pilot.@@N@@.Jvm.D
abbrev oI (x : Int32) : Slot := .val (.int x)
abbrev oJ (x : Int64) : Slot := .val (.long x)
abbrev oR (x : Addr) : Slot := .val (.ref x)
theorem own_up (cs : List Int32) (h : ∀ c ∈ cs, ¬ c < 0 ∧ ¬ (255 : Int32) < c) : ∀ c ∈ cs, ¬ c < 0 ∧ ¬ (65535 : Int32) < c := fun c hc => ⟨(h c hc).1, fun q => (h c hc).2 (by rw [Int32.lt_iff_toInt_lt] at q ⊢; have e1 : (65535 : Int32).toInt = 65535 := rfl; have e2 : (255 : Int32).toInt = 255 := rfl; omega)⟩
theorem own_toInt16 (x : Int32) : x.toUInt32.toUInt16.toUInt32.toInt32.toInt = x.toInt % 65536 := by
  have h : (x.toUInt32.toUInt16.toUInt32.toInt32).toBitVec.toNat = x.toBitVec.toNat % 65536 := by simp
  have h2 : (x.toUInt32.toUInt16.toUInt32.toInt32).toBitVec.toNat < 65536 := by rw [h]; exact Nat.mod_lt _ (by decide)
  have e1 : (x.toUInt32.toUInt16.toUInt32.toInt32).toInt = ((x.toUInt32.toUInt16.toUInt32.toInt32).toBitVec.toNat : Int) := by
    rw [← Int32.toInt_toBitVec, BitVec.toInt_eq_toNat_of_lt (by omega)]
  rw [e1, h, ← Int32.toInt_toBitVec, BitVec.toInt_eq_toNat_bmod, Int.bmod_def]
  split <;> omega
theorem own_nar {c : Int32} (h0 : ¬ c < 0) (h1 : ¬ (65535 : Int32) < c) : nar .char c = c := by
  have e0 : c.toUInt32.toUInt16.toUInt32.toInt32 = c := by
    apply Int32.toInt_inj.mp
    rw [own_toInt16]
    rw [Int32.lt_iff_toInt_lt] at h0 h1
    have z : (0 : Int32).toInt = 0 := rfl
    have y : (65535 : Int32).toInt = 65535 := rfl
    omega
  exact e0
theorem eq_v {args : Array Value} {first s : State} {o : Option Outcome} {idx : List Nat} {t : Term} {k z : Int32} (q : t.eval args first o idx s = some (.int z)) : (Jvm.Cond.eq t (.int k)).value args first o s idx = some (decide (z = k)) := by simp [Cond.value, Term.eval, q]
theorem own_hws {a0 : Array Value} {Z : State} (hw : ∀ d ∈ tables_1, d.before a0 Z = true) : ∀ d ∈ StrChars.Road.words, d.before a0 Z = true := fun d hd => hw d ((by decide +kernel : ∀ d ∈ StrChars.Road.words, d ∈ tables_1) d hd)
theorem own_heq {a0 : Array Value} {Z : State} (hw : ∀ d ∈ tables_1, d.before a0 Z = true) : ∀ d ∈ StrChars.Road.wordsEq, d.before a0 Z = true := fun d hd => hw d ((by decide +kernel : ∀ d ∈ StrChars.Road.wordsEq, d ∈ tables_1) d hd)
theorem own_wS0 {a0 : Array Value} {Z : State} (hw : ∀ d ∈ tables_1, d.before a0 Z = true) : ∀ d ∈ Bundle.stringAtoms, d.before a0 Z = true := fun d hd => hw d ((by decide +kernel : ∀ d ∈ Bundle.stringAtoms, d ∈ tables_1) d hd)
def QZ (Z : State) (n0 : Nat) (h0 : Heap) (xx : Addr) (v : Option Value) (h : Heap) (vm : Vm) (L : List Loc) : Prop := v = none ∧ Fr n0 L ∧ Keep h0 h [xx] ∧ ∃ (aa bb : Addr) (kk : ClassId), IB Z vm [""] ∧ Lit (Z.setVm vm) "java/lang/String" 7 aa ∧ Fld Z h aa "java/lang/String" "value" "[B" (.ref bb) ∧ Fld Z h aa "java/lang/String" "coder" "B" (.int (0 : Int32)) ∧ Arv Z h bb kk .byte (0 : Int32) [] (.int 0) ∧ aa ≠ xx ∧ bb ≠ xx ∧ Exa Z h xx "java/lang/String" ∧ Fld Z h xx "java/lang/String" "value" "[B" (.ref bb) ∧ Fld Z h xx "java/lang/String" "coder" "B" (.int (0 : Int32))
def QZ1 (Z : State) (n0 : Nat) (h0 : Heap) (xx bb : Addr) (v : Option Value) (h : Heap) (vm : Vm) (L : List Loc) : Prop := v = none ∧ Fr n0 L ∧ Keep h0 h [xx] ∧ Exa Z h xx "java/lang/String" ∧ Fld Z h xx "java/lang/String" "value" "[B" (.ref bb) ∧ Fld Z h xx "java/lang/String" "coder" "B" (.int (0 : Int32))
theorem own_emp : (∀ c ∈ "".toList, c.toNat < 256) ∧ "".toList.map (fun c => Value.int (Jvm.Lit.byteI c.toNat.toUInt16)) = [] := ⟨fun c hc => by simp at hc, rfl⟩
theorem own_codE : StrChars.Road.CodA [] 0 (0 : Int32) [] := StrChars.Road.codOf (n := 0) (cs := []) rfl (fun c hc => absurd hc List.not_mem_nil)
theorem own_ib {p : Program} {l : Launch} {e : Env} {R : Room} {s : State} {m : MethodId} {args : Array Value} {below : List Frame} {meth : Method} {c : Code} {T : State} {locs : List Loc} {cells slots : Nat} {Z : State} {vm0 : Vm} {Ts : List String} (X : Stand p l e R (s.setVm vm0) m args below meth c T locs cells slots) (I : IB Z vm0 Ts) : IB Z T.vm Ts := by
  have hi : T.vm.interned = vm0.interned := X.warmed.interned_eq
  obtain ⟨more, h1, h2⟩ := I
  exact ⟨more, hi.trans h1, h2⟩
theorem own_litS {s Z : State} {vm : Vm} {own : String} {i : Nat} {a : Addr} (L : Lit (s.setVm vm) own i a) : Lit (Z.setVm vm) own i a := L
theorem own_lit {p : Program} {l : Launch} {e : Env} {R : Room} {s : State} {m : MethodId} {args : Array Value} {below : List Frame} {meth : Method} {c : Code} {T : State} {locs : List Loc} {cells slots : Nat} {Z : State} {vm0 : Vm} {own : String} {i : Nat} {a : Addr} (X : Stand p l e R (s.setVm vm0) m args below meth c T locs cells slots) (L : Lit (s.setVm vm0) own i a) : Lit (Z.setVm T.vm) own i a :=
  own_litS (L.stays X.warmed.wide)
theorem own_ibV {s : State} {Z : State} {vm0 vm' : Vm} {Ts : List String} (I : IB Z vm0 Ts) (hW : (s.setVm vm0).WarmedH vm') : IB Z vm' Ts := by
  have hi : vm'.interned = vm0.interned := hW.interned_eq
  obtain ⟨more, h1, h2⟩ := I
  exact ⟨more, hi.trans h1, h2⟩
theorem own_litV {s Z : State} {vm0 vm' : Vm} {own : String} {i : Nat} {a : Addr} (L : Lit (Z.setVm vm0) own i a) (hW : (s.setVm vm0).WarmedH vm') : Lit (Z.setVm vm') own i a :=
  own_litS (s := s) ((own_litS L).stays hW.wide)
theorem own_litW {s Z : State} {vm0 vm' : Vm} {own : String} {i : Nat} {a : Addr} (L : Lit (Z.setVm vm0) own i a) (hW : (s.setVm vm0).Warmed39 vm') : Lit (Z.setVm vm') own i a :=
  own_litS (s := s) ((own_litS L).stays hW)
theorem pn_java_lang_String : plainName "java/lang/String" = true := by first | (simp [plainName, overriddenIn]; done) | decide +kernel
theorem d5_0 : decode jdk_42_method_149_code 0 = .ok (.aload_n 0, 1) := by decide +kernel
theorem d5_1 : decode jdk_42_method_149_code 1 = .ok (.invokespecial 1, 3) := by decide +kernel
theorem d5_4 : decode jdk_42_method_149_code 4 = .ok (.iload_n 3, 1) := by decide +kernel
theorem d5_5 : decode jdk_42_method_149_code 5 = .ok (.ifCond .ne 22, 3) := by decide +kernel
theorem d5_8 : decode jdk_42_method_149_code 8 = .ok (.aload_n 0, 1) := by decide +kernel
theorem d5_9 : decode jdk_42_method_149_code 9 = .ok (.ldc 7, 2) := by decide +kernel
theorem d5_11 : decode jdk_42_method_149_code 11 = .ok (.getfield 9, 3) := by decide +kernel
theorem d5_14 : decode jdk_42_method_149_code 14 = .ok (.putfield 9, 3) := by decide +kernel
theorem d5_17 : decode jdk_42_method_149_code 17 = .ok (.aload_n 0, 1) := by decide +kernel
theorem d5_18 : decode jdk_42_method_149_code 18 = .ok (.ldc 7, 2) := by decide +kernel
theorem d5_20 : decode jdk_42_method_149_code 20 = .ok (.getfield 15, 3) := by decide +kernel
theorem d5_23 : decode jdk_42_method_149_code 23 = .ok (.putfield 15, 3) := by decide +kernel
theorem d5_26 : decode jdk_42_method_149_code 26 = .ok (.return_, 1) := by decide +kernel
set_option maxRecDepth 65536 in
set_option maxHeartbeats 40000000 in
theorem rmZ4 (l : Launch) (Z : State) (a0 : Array Value) (hw : ∀ d ∈ tables_1, d.before a0 Z = true) (ws : List Jvm.Cond) (xx cA : Addr) (h0 : Heap) (n0 : Nat) (Z0 : n0 ≤ h0.size) (Ex : Exa Z h0 xx "java/lang/String") (Fv : Fld Z h0 xx "java/lang/String" "value" "[B" .null) (Fc : Fld Z h0 xx "java/lang/String" "coder" "B" (.int (0 : Int32))) (gx : n0 ≤ xx) (O0 : Old Z n0 h0) (hh : Jvm.Lit.constHeld Z "java/lang/String" 7) (hcw : Jvm.Lit.compactW.before a0 Z = true) :
    Ctr ReturnedEndW l Z (⟨"java/lang/String", "<init>", "([CIILjava/lang/Void;)V"⟩ : MethodName) jdk_42_method_149_code 6 none ws ({ frames := 1, cells := 2, slots := 4, locals := 12 } : Room) #[(.ref xx), (.ref cA), (.int (0 : Int32)), (.int (0 : Int32)), .null] h0 (fun vm => IB Z vm []) (QZ Z n0 h0 xx) := by
  refine Ctr.intro (plainFor_of_name pn_java_lang_String) (Ls := #[.val (.ref xx), .val (.ref cA), .val (.int (0 : Int32)), .val (.int (0 : Int32)), .val .null, .unset]) (fun m => by first | (simp [entryFrame, mkF, argsToLocals, Value.category]; done) | rfl) ?_
  intro p e s m below meth c T0 hx hby hml hown hnm hret hlk hZ hV hsh e0 X0
  have N0 := Fr.nil n0
  have hS : s.Since s.vm 0 := (State.WarmedH.refl s).since 0
  have hk : 0 ≤ h0.size := Nat.zero_le _
  have X0 : Stand p l e ({ frames := 1, cells := 2, slots := 4, locals := 12 } : Room) (s.setVm s.vm) m #[(.ref xx), (.ref cA), (.int (0 : Int32)), (.int (0 : Int32)), .null] below meth c T0 [] 0 0 := X0
  have hZ : Z.Warmed39 (s.setVm s.vm).vm := hZ
  have hown : (s.setVm s.vm).vm.findClass "java/lang/String" = some m.cls := hown
  have own_wS := own_wS0 hw
  show Done _ p e below s _ _ (T0.setTop (mkF m 0 #[oR xx, oR cA, oI (0 : Int32), oI (0 : Int32), .val .null, .unset] []))
  refine Done.step (fun _ => XS.aloadN X0.here hx rfl (hb hby d5_0) rfl rfl) ?_
  show Done _ p e below s _ _ (T0.setTop (mkF m 1 #[oR xx, oR cA, oI (0 : Int32), oI (0 : Int32), .val .null, .unset] [(.ref xx)]))
  obtain ⟨T1, X1, e1, st1⟩ := initO X0 hx hZ hown (wAt hw 23 rfl) (wAt hw 24 rfl) (wAt hw 25 rfl) e0 (g := (mkF m 1 #[oR xx, oR cA, oI (0 : Int32), oI (0 : Int32), .val .null, .unset] [(.ref xx)])) rfl (by rw [hml]; rfl) rfl (hb hby d5_1) (by decide) (W := 0) (by show 2 * 0 + _ ≤ _; exact Nat.le_of_eq rfl) (by decide)
  refine Done.step st1 ?_
  show Done _ p e below s _ _ (T1.setTop (mkF m 4 #[oR xx, oR cA, oI (0 : Int32), oI (0 : Int32), .val .null, .unset] []))
  refine Done.step (fun _ => XS.iloadN X1.here hx rfl (hb hby d5_4) rfl) ?_
  show Done _ p e below s _ _ (T1.setTop (mkF m 5 #[oR xx, oR cA, oI (0 : Int32), oI (0 : Int32), .val .null, .unset] [(.int (0 : Int32))]))
  refine Done.step (fun _ => XS.ifNo X1.here hx rfl (hb hby d5_5) rfl (XT.i0_ne_f rfl)) ?_
  show Done _ p e below s _ _ (T1.setTop (mkF m 8 #[oR xx, oR cA, oI (0 : Int32), oI (0 : Int32), .val .null, .unset] []))
  refine Done.step (fun _ => XS.aloadN X1.here hx rfl (hb hby d5_8) rfl rfl) ?_
  show Done _ p e below s _ _ (T1.setTop (mkF m 9 #[oR xx, oR cA, oI (0 : Int32), oI (0 : Int32), .val .null, .unset] [(.ref xx)]))
  obtain ⟨aa, T2, h2, k2, bb, kk, X2, e2, E2, hS, hk, hZ, hown, EA, FA2, FA1, FB, la, lb, IBn, LTn, hwh, st2⟩ := ldcSVd X1 hx hZ hown (wAt hw 42 rfl) own_wS e1 hS hk (Fr.nil _) (hsh ▸ O0.2.2) hV (List.not_mem_nil) hh hcw own_emp (z := (0 : Int32)) (by decide) (by decide) (g := (mkF m 9 #[oR xx, oR cA, oI (0 : Int32), oI (0 : Int32), .val .null, .unset] [(.ref xx)])) rfl (hb hby d5_9) (n := 0) (by decide) (by decide) (by decide) (by decide)
  have K2 := (Keep.refl h0 [xx]).ext E2
  have Zs2 := Nat.le_trans Z0 E2.1
  refine Done.step st2 ?_
  have f3 := (Fv.ext E2)
  have nax : aa ≠ xx := FA1.ne f3 (by simp)
  have f4 := (Ex.ext E2)
  have nbx : bb ≠ xx := Ne.symm (f4.neArv FB (wAt hw 10 rfl))
  show Done _ p e below s _ _ (T2.setTop (mkF m 11 #[oR xx, oR cA, oI (0 : Int32), oI (0 : Int32), .val .null, .unset] [(.ref aa), (.ref xx)]))
  obtain ⟨T5, X5, e5, st5⟩ := getF X2 hx hZ hown (host := "") (Or.inl (wAt hw 40 rfl)) Via.refl e2 FA1 (g := (mkF m 11 #[oR xx, oR cA, oI (0 : Int32), oI (0 : Int32), .val .null, .unset] [(.ref aa), (.ref xx)])) rfl rfl (hb hby d5_11)
  refine Done.step st5 ?_
  show Done _ p e below s _ _ (T5.setTop (mkF m 14 #[oR xx, oR cA, oI (0 : Int32), oI (0 : Int32), .val .null, .unset] [(.ref bb), (.ref xx)]))
  obtain ⟨T6, h6, X6, e6, W6, st6⟩ := putF X5 hx hZ hown (host := "") (Or.inl (wAt hw 40 rfl)) Via.refl e5 f3 f4 (Or.inr ⟨(wAt hw 41 rfl), rfl, hnm⟩) (wAt hw 10 rfl) (ty := (.array .byte)) (by decide) rfl rfl (g := (mkF m 14 #[oR xx, oR cA, oI (0 : Int32), oI (0 : Int32), .val .null, .unset] [(.ref bb), (.ref xx)])) rfl rfl (hb hby d5_14)
  have F6 := f3.same W6
  have N6 := Fr.snoc X6 N0 gx
  have Zs6 := Nat.le_trans Zs2 (Keep.of_wr W6).1
  have hk := Nat.le_trans hk (Keep.of_wr W6).1
  have K6 := K2.wr W6 (Or.inl (List.mem_of_getElem? (i := 0) rfl))
  refine Done.step st6 ?_
  show Done _ p e below s _ _ (T6.setTop (mkF m 17 #[oR xx, oR cA, oI (0 : Int32), oI (0 : Int32), .val .null, .unset] []))
  refine Done.step (fun _ => XS.aloadN X6.here hx rfl (hb hby d5_17) rfl rfl) ?_
  show Done _ p e below s _ _ (T6.setTop (mkF m 18 #[oR xx, oR cA, oI (0 : Int32), oI (0 : Int32), .val .null, .unset] [(.ref xx)]))
  refine Done.step (ldcAgain X6 hx hZ hown (wAt hw 42 rfl) LTn (g := (mkF m 18 #[oR xx, oR cA, oI (0 : Int32), oI (0 : Int32), .val .null, .unset] [(.ref xx)])) rfl (hb hby d5_18)) ?_
  show Done _ p e below s _ _ (T6.setTop (mkF m 20 #[oR xx, oR cA, oI (0 : Int32), oI (0 : Int32), .val .null, .unset] [(.ref aa), (.ref xx)]))
  have f8 := (FA2.other W6 (Or.inl nax))
  obtain ⟨T7, X7, e7, st7⟩ := getF X6 hx hZ hown (host := "") (Or.inl (wAt hw 38 rfl)) Via.refl e6 f8 (g := (mkF m 20 #[oR xx, oR cA, oI (0 : Int32), oI (0 : Int32), .val .null, .unset] [(.ref aa), (.ref xx)])) rfl rfl (hb hby d5_20)
  refine Done.step st7 ?_
  show Done _ p e below s _ _ (T7.setTop (mkF m 23 #[oR xx, oR cA, oI (0 : Int32), oI (0 : Int32), .val .null, .unset] [(.int (0 : Int32)), (.ref xx)]))
  have f10 := ((Fc.ext E2).other W6 (Or.inr (slot_ne (Or.inr (wAt hw 39 rfl)) (Or.inr (wAt hw 41 rfl)) (by decide) (t := .byte) (t' := (.array .byte)) (by decide) (by decide))))
  have f11 := (f4.wr W6)
  obtain ⟨T9, h9, X9, e9, W9, st9⟩ := putFN X7 hx hZ hown (wAt hw 38 rfl) Via.refl e7 f10 f11 (Or.inr ⟨(wAt hw 39 rfl), rfl, hnm⟩) (wAt hw 10 rfl) (ty := .byte) (v' := (.int (nar .byte (0 : Int32)))) (by decide) rfl (fits_nar_byte _) (g := (mkF m 23 #[oR xx, oR cA, oI (0 : Int32), oI (0 : Int32), .val .null, .unset] [(.int (0 : Int32)), (.ref xx)])) rfl rfl (hb hby d5_23)
  have F9 := f10.same W9
  have N9 := Fr.snoc X9 N6 gx
  have Zs9 := Nat.le_trans Zs6 (Keep.of_wr W9).1
  have hk := Nat.le_trans hk (Keep.of_wr W9).1
  have K9 := K6.wr W9 (Or.inl (List.mem_of_getElem? (i := 0) rfl))
  refine Done.step st9 ?_
  show Done _ p e below s _ _ (T9.setTop (mkF m 26 #[oR xx, oR cA, oI (0 : Int32), oI (0 : Int32), .val .null, .unset] []))
  have f12 := (f11.wr W9)
  have f13 := (F6.other W9 (Or.inr (slot_ne (Or.inr (wAt hw 41 rfl)) (Or.inr (wAt hw 39 rfl)) (by decide) (t := (.array .byte)) (t' := .byte) (by decide) (by decide))))
  have f14 := ((FA1.other W6 (Or.inl nax)).other W9 (Or.inl nax))
  have f15 := (f8.other W9 (Or.inl nax))
  have f16 := ((FB.other W6 nbx).other W9 nbx)
  refine Done.retV (leavesW X9 hS (by first | exact hk | (rw [e9]; exact hk)) hlk (by decide) (by decide)) X9 hx hret (hb hby d5_26) ?_
  rw [e9]
  exact ⟨rfl, N9, K9, aa, bb, kk, (own_ib X9 IBn), (own_lit X9 LTn), f14, f15, f16, nax, nbx, f12, f13, F9⟩
theorem d4_0 : decode jdk_42_method_3_code 0 = .ok (.aload_n 0, 1) := by decide +kernel
theorem d4_1 : decode jdk_42_method_3_code 1 = .ok (.aload_n 1, 1) := by decide +kernel
theorem d4_2 : decode jdk_42_method_3_code 2 = .ok (.iconst 0, 1) := by decide +kernel
theorem d4_3 : decode jdk_42_method_3_code 3 = .ok (.aload_n 1, 1) := by decide +kernel
theorem d4_4 : decode jdk_42_method_3_code 4 = .ok (.arraylength, 1) := by decide +kernel
theorem d4_5 : decode jdk_42_method_3_code 5 = .ok (.aconst_null, 1) := by decide +kernel
theorem d4_6 : decode jdk_42_method_3_code 6 = .ok (.invokespecial 27, 3) := by decide +kernel
theorem pd_0 : parseMethodDescriptor "([CIILjava/lang/Void;)V" = some ⟨[(.array .char), .int, .int, (.object "java/lang/Void")], none⟩ := by decide +kernel
theorem d4_9 : decode jdk_42_method_3_code 9 = .ok (.return_, 1) := by decide +kernel
set_option maxRecDepth 65536 in
set_option maxHeartbeats 40000000 in
theorem rmZ (l : Launch) (Z : State) (a0 : Array Value) (hw : ∀ d ∈ tables_1, d.before a0 Z = true) (ws : List Jvm.Cond) (xx cA : Addr) (kc : ClassId) (h0 : Heap) (n0 : Nat) (Z0 : n0 ≤ h0.size) (VA : Arv Z h0 cA kc .char (0 : Int32) [] (.int (0 : Int32))) (Ex : Exa Z h0 xx "java/lang/String") (Fv : Fld Z h0 xx "java/lang/String" "value" "[B" .null) (Fc : Fld Z h0 xx "java/lang/String" "coder" "B" (.int (0 : Int32))) (gx : n0 ≤ xx) (O0 : Old Z n0 h0) (hh : Jvm.Lit.constHeld Z "java/lang/String" 7) (hcw : Jvm.Lit.compactW.before a0 Z = true) :
    Ctr ReturnedEndW l Z (⟨"java/lang/String", "<init>", "([C)V"⟩ : MethodName) jdk_42_method_3_code 2 none ws ({ frames := 2, cells := 2, slots := 4, locals := 34 } : Room) #[(.ref xx), (.ref cA)] h0 (fun vm => IB Z vm []) (QZ Z n0 h0 xx) := by
  refine Ctr.intro (plainFor_of_name pn_java_lang_String) (Ls := #[.val (.ref xx), .val (.ref cA)]) (fun m => by first | (simp [entryFrame, mkF, argsToLocals, Value.category]; done) | rfl) ?_
  intro p e s m below meth c T0 hx hby hml hown hnm hret hlk hZ hV hsh e0 X0
  have N0 := Fr.nil n0
  have hS : s.Since s.vm 0 := (State.WarmedH.refl s).since 0
  have hk : 0 ≤ h0.size := Nat.zero_le _
  have X0 : Stand p l e ({ frames := 2, cells := 2, slots := 4, locals := 34 } : Room) (s.setVm s.vm) m #[(.ref xx), (.ref cA)] below meth c T0 [] 0 0 := X0
  have hZ : Z.Warmed39 (s.setVm s.vm).vm := hZ
  have hown : (s.setVm s.vm).vm.findClass "java/lang/String" = some m.cls := hown
  show Done _ p e below s _ _ (T0.setTop (mkF m 0 #[oR xx, oR cA] []))
  refine Done.step (fun _ => XS.aloadN X0.here hx rfl (hb hby d4_0) rfl rfl) ?_
  show Done _ p e below s _ _ (T0.setTop (mkF m 1 #[oR xx, oR cA] [(.ref xx)]))
  refine Done.step (fun _ => XS.aloadN X0.here hx rfl (hb hby d4_1) rfl rfl) ?_
  show Done _ p e below s _ _ (T0.setTop (mkF m 2 #[oR xx, oR cA] [(.ref cA), (.ref xx)]))
  refine Done.step (fun _ => XT.iconstV X0.here hx rfl (0 : Int32) (hb hby d4_2) (by decide)) ?_
  show Done _ p e below s _ _ (T0.setTop (mkF m 3 #[oR xx, oR cA] [(.int (0 : Int32)), (.ref cA), (.ref xx)]))
  refine Done.step (fun _ => XS.aloadN X0.here hx rfl (hb hby d4_3) rfl rfl) ?_
  show Done _ p e below s _ _ (T0.setTop (mkF m 4 #[oR xx, oR cA] [(.ref cA), (.int (0 : Int32)), (.ref cA), (.ref xx)]))
  obtain ⟨cl1, Ar1, q1, S1, Nn1, H1, G1⟩ := id VA
  refine Done.step (X0.arraylength hx (by first | exact Ar1.1 | (rw [e0]; exact Ar1.1)) (State.isArrayOf_alike hZ.alike Ar1.2.1) (g := (mkF m 4 #[oR xx, oR cA] [(.ref cA), (.int (0 : Int32)), (.ref cA), (.ref xx)])) rfl rfl (hb hby d4_4)) ?_
  rw [len_of S1 Nn1]
  show Done _ p e below s _ _ (T0.setTop (mkF m 5 #[oR xx, oR cA] [(.int (0 : Int32)), (.int (0 : Int32)), (.ref cA), (.ref xx)]))
  refine Done.step (fun _ => XS.aconstNull X0.here hx rfl (hb hby d4_5)) ?_
  show Done _ p e below s _ _ (T0.setTop (mkF m 6 #[oR xx, oR cA] [.null, (.int (0 : Int32)), (.int (0 : Int32)), (.ref cA), (.ref xx)]))
  refine Done.callIW X0 hx hZ rfl hown hS hk (wAt hw 19 rfl) (wAt hw 20 rfl) (wAt hw 11 rfl) (wAt hw 22 rfl) (by decide) (rmZ4 l Z a0 hw [] xx cA h0 n0 Z0 Ex Fv Fc gx O0 hh hcw) (fun vm' hW => own_ibV hV hW) e0 (g := (mkF m 6 #[oR xx, oR cA] [.null, (.int (0 : Int32)), (.int (0 : Int32)), (.ref cA), (.ref xx)])) rfl (by rw [hml]; rfl) xx [(.ref cA), (.int (0 : Int32)), (.int (0 : Int32)), .null] [] 0 (lenOf pd_0 rfl) rfl rfl (by show 2 * 0 + _ ≤ _; exact Nat.le_of_eq rfl) (hb hby d4_6) (by decide) (by decide) (by decide) (by decide) ?_
  intro T2 v2 L2 X2 hS hZ hown hW2 q2
  have hk := Nat.le_refl T2.heap.size
  obtain ⟨rfl, Nq2, K2q, aaq, bbq, kkq, IBqq, LTqq, FAvq, FAcq, FBqq, naxq, nbxq, Exqq, Fvqq, Fcqq⟩ := q2
  have N2 := Fr.app N0 Nq2
  have Zs2 := Nat.le_trans Z0 K2q.1
  have K2 := (Keep.refl h0 [xx]).trans K2q (allS (Or.inl (List.mem_of_getElem? (i := 0) rfl)) all0)
  show Done _ p e below s _ _ (T2.setTop (mkF m 9 #[oR xx, oR cA] []))
  exact Done.retV (leavesW X2 hS (by first | exact hk | (rw [rfl]; exact hk)) hlk (by decide) (by decide)) X2 hx hret (hb hby d4_9) ⟨rfl, N2, K2, aaq, bbq, kkq, (own_ib X2 IBqq), (own_lit X2 (own_litS LTqq)), FAvq, FAcq, FBqq, naxq, nbxq, Exqq, Fvqq, Fcqq⟩
set_option maxRecDepth 65536 in
set_option maxHeartbeats 40000000 in
theorem rmY4 (l : Launch) (Z : State) (a0 : Array Value) (hw : ∀ d ∈ tables_1, d.before a0 Z = true) (ws : List Jvm.Cond) (xx cA : Addr) (aa bb : Addr) (kk : ClassId) (h0 : Heap) (n0 : Nat) (Z0 : n0 ≤ h0.size) (Ex : Exa Z h0 xx "java/lang/String") (Fv : Fld Z h0 xx "java/lang/String" "value" "[B" .null) (Fc : Fld Z h0 xx "java/lang/String" "coder" "B" (.int (0 : Int32))) (gx : n0 ≤ xx) (O0 : Old Z n0 h0) (FA1 : Fld Z h0 aa "java/lang/String" "value" "[B" (.ref bb)) (FA2 : Fld Z h0 aa "java/lang/String" "coder" "B" (.int (0 : Int32))) (FB : Arv Z h0 bb kk .byte (0 : Int32) [] (.int 0)) :
    Ctr ReturnedEndW l Z (⟨"java/lang/String", "<init>", "([CIILjava/lang/Void;)V"⟩ : MethodName) jdk_42_method_149_code 6 none ws ({ frames := 1, cells := 2, slots := 4, locals := 12 } : Room) #[(.ref xx), (.ref cA), (.int (0 : Int32)), (.int (0 : Int32)), .null] h0 (fun vm => Lit (Z.setVm vm) "java/lang/String" 7 aa) (QZ1 Z n0 h0 xx bb) := by
  refine Ctr.intro (plainFor_of_name pn_java_lang_String) (Ls := #[.val (.ref xx), .val (.ref cA), .val (.int (0 : Int32)), .val (.int (0 : Int32)), .val .null, .unset]) (fun m => by first | (simp [entryFrame, mkF, argsToLocals, Value.category]; done) | rfl) ?_
  intro p e s m below meth c T0 hx hby hml hown hnm hret hlk hZ hV hsh e0 X0
  have N0 := Fr.nil n0
  have hS : s.Since s.vm 0 := (State.WarmedH.refl s).since 0
  have hk : 0 ≤ h0.size := Nat.zero_le _
  have X0 : Stand p l e ({ frames := 1, cells := 2, slots := 4, locals := 12 } : Room) (s.setVm s.vm) m #[(.ref xx), (.ref cA), (.int (0 : Int32)), (.int (0 : Int32)), .null] below meth c T0 [] 0 0 := X0
  have hZ : Z.Warmed39 (s.setVm s.vm).vm := hZ
  have hown : (s.setVm s.vm).vm.findClass "java/lang/String" = some m.cls := hown
  have own_wS := own_wS0 hw
  have nax : aa ≠ xx := FA1.ne Fv (by simp)
  have nbx : bb ≠ xx := Ne.symm (Ex.neArv FB (wAt hw 10 rfl))
  have LTn : Lit (s.setVm s.vm) "java/lang/String" 7 aa := own_litS hV
  show Done _ p e below s _ _ (T0.setTop (mkF m 0 #[oR xx, oR cA, oI (0 : Int32), oI (0 : Int32), .val .null, .unset] []))
  refine Done.step (fun _ => XS.aloadN X0.here hx rfl (hb hby d5_0) rfl rfl) ?_
  show Done _ p e below s _ _ (T0.setTop (mkF m 1 #[oR xx, oR cA, oI (0 : Int32), oI (0 : Int32), .val .null, .unset] [(.ref xx)]))
  obtain ⟨T1, X1, e1, st1⟩ := initO X0 hx hZ hown (wAt hw 23 rfl) (wAt hw 24 rfl) (wAt hw 25 rfl) e0 (g := (mkF m 1 #[oR xx, oR cA, oI (0 : Int32), oI (0 : Int32), .val .null, .unset] [(.ref xx)])) rfl (by rw [hml]; rfl) rfl (hb hby d5_1) (by decide) (W := 0) (by show 2 * 0 + _ ≤ _; exact Nat.le_of_eq rfl) (by decide)
  refine Done.step st1 ?_
  show Done _ p e below s _ _ (T1.setTop (mkF m 4 #[oR xx, oR cA, oI (0 : Int32), oI (0 : Int32), .val .null, .unset] []))
  refine Done.step (fun _ => XS.iloadN X1.here hx rfl (hb hby d5_4) rfl) ?_
  show Done _ p e below s _ _ (T1.setTop (mkF m 5 #[oR xx, oR cA, oI (0 : Int32), oI (0 : Int32), .val .null, .unset] [(.int (0 : Int32))]))
  refine Done.step (fun _ => XS.ifNo X1.here hx rfl (hb hby d5_5) rfl (XT.i0_ne_f rfl)) ?_
  show Done _ p e below s _ _ (T1.setTop (mkF m 8 #[oR xx, oR cA, oI (0 : Int32), oI (0 : Int32), .val .null, .unset] []))
  refine Done.step (fun _ => XS.aloadN X1.here hx rfl (hb hby d5_8) rfl rfl) ?_
  show Done _ p e below s _ _ (T1.setTop (mkF m 9 #[oR xx, oR cA, oI (0 : Int32), oI (0 : Int32), .val .null, .unset] [(.ref xx)]))
  refine Done.step (ldcAgain X1 hx hZ hown (wAt hw 42 rfl) LTn (g := (mkF m 9 #[oR xx, oR cA, oI (0 : Int32), oI (0 : Int32), .val .null, .unset] [(.ref xx)])) rfl (hb hby d5_9)) ?_
  show Done _ p e below s _ _ (T1.setTop (mkF m 11 #[oR xx, oR cA, oI (0 : Int32), oI (0 : Int32), .val .null, .unset] [(.ref aa), (.ref xx)]))
  obtain ⟨T2, X2, e2, st2⟩ := getF X1 hx hZ hown (host := "") (Or.inl (wAt hw 40 rfl)) Via.refl e1 FA1 (g := (mkF m 11 #[oR xx, oR cA, oI (0 : Int32), oI (0 : Int32), .val .null, .unset] [(.ref aa), (.ref xx)])) rfl rfl (hb hby d5_11)
  refine Done.step st2 ?_
  show Done _ p e below s _ _ (T2.setTop (mkF m 14 #[oR xx, oR cA, oI (0 : Int32), oI (0 : Int32), .val .null, .unset] [(.ref bb), (.ref xx)]))
  obtain ⟨T3, h3, X3, e3, W3, st3⟩ := putF X2 hx hZ hown (host := "") (Or.inl (wAt hw 40 rfl)) Via.refl e2 Fv Ex (Or.inr ⟨(wAt hw 41 rfl), rfl, hnm⟩) (wAt hw 10 rfl) (ty := (.array .byte)) (by decide) rfl rfl (g := (mkF m 14 #[oR xx, oR cA, oI (0 : Int32), oI (0 : Int32), .val .null, .unset] [(.ref bb), (.ref xx)])) rfl rfl (hb hby d5_14)
  have F3 := Fv.same W3
  have N3 := Fr.snoc X3 N0 gx
  have Zs3 := Nat.le_trans Z0 (Keep.of_wr W3).1
  have hk := Nat.le_trans hk (Keep.of_wr W3).1
  have K3 := (Keep.refl h0 [xx]).wr W3 (Or.inl (List.mem_of_getElem? (i := 0) rfl))
  refine Done.step st3 ?_
  show Done _ p e below s _ _ (T3.setTop (mkF m 17 #[oR xx, oR cA, oI (0 : Int32), oI (0 : Int32), .val .null, .unset] []))
  refine Done.step (fun _ => XS.aloadN X3.here hx rfl (hb hby d5_17) rfl rfl) ?_
  show Done _ p e below s _ _ (T3.setTop (mkF m 18 #[oR xx, oR cA, oI (0 : Int32), oI (0 : Int32), .val .null, .unset] [(.ref xx)]))
  refine Done.step (ldcAgain X3 hx hZ hown (wAt hw 42 rfl) LTn (g := (mkF m 18 #[oR xx, oR cA, oI (0 : Int32), oI (0 : Int32), .val .null, .unset] [(.ref xx)])) rfl (hb hby d5_18)) ?_
  show Done _ p e below s _ _ (T3.setTop (mkF m 20 #[oR xx, oR cA, oI (0 : Int32), oI (0 : Int32), .val .null, .unset] [(.ref aa), (.ref xx)]))
  have f5 := (FA2.other W3 (Or.inl nax))
  obtain ⟨T4, X4, e4, st4⟩ := getF X3 hx hZ hown (host := "") (Or.inl (wAt hw 38 rfl)) Via.refl e3 f5 (g := (mkF m 20 #[oR xx, oR cA, oI (0 : Int32), oI (0 : Int32), .val .null, .unset] [(.ref aa), (.ref xx)])) rfl rfl (hb hby d5_20)
  refine Done.step st4 ?_
  show Done _ p e below s _ _ (T4.setTop (mkF m 23 #[oR xx, oR cA, oI (0 : Int32), oI (0 : Int32), .val .null, .unset] [(.int (0 : Int32)), (.ref xx)]))
  have f7 := (Fc.other W3 (Or.inr (slot_ne (Or.inr (wAt hw 39 rfl)) (Or.inr (wAt hw 41 rfl)) (by decide) (t := .byte) (t' := (.array .byte)) (by decide) (by decide))))
  have f8 := (Ex.wr W3)
  obtain ⟨T6, h6, X6, e6, W6, st6⟩ := putFN X4 hx hZ hown (wAt hw 38 rfl) Via.refl e4 f7 f8 (Or.inr ⟨(wAt hw 39 rfl), rfl, hnm⟩) (wAt hw 10 rfl) (ty := .byte) (v' := (.int (nar .byte (0 : Int32)))) (by decide) rfl (fits_nar_byte _) (g := (mkF m 23 #[oR xx, oR cA, oI (0 : Int32), oI (0 : Int32), .val .null, .unset] [(.int (0 : Int32)), (.ref xx)])) rfl rfl (hb hby d5_23)
  have F6 := f7.same W6
  have N6 := Fr.snoc X6 N3 gx
  have Zs6 := Nat.le_trans Zs3 (Keep.of_wr W6).1
  have hk := Nat.le_trans hk (Keep.of_wr W6).1
  have K6 := K3.wr W6 (Or.inl (List.mem_of_getElem? (i := 0) rfl))
  refine Done.step st6 ?_
  show Done _ p e below s _ _ (T6.setTop (mkF m 26 #[oR xx, oR cA, oI (0 : Int32), oI (0 : Int32), .val .null, .unset] []))
  have f9 := (f8.wr W6)
  have f10 := (F3.other W6 (Or.inr (slot_ne (Or.inr (wAt hw 41 rfl)) (Or.inr (wAt hw 39 rfl)) (by decide) (t := (.array .byte)) (t' := .byte) (by decide) (by decide))))
  refine Done.retV (leavesW X6 hS (by first | exact hk | (rw [e6]; exact hk)) hlk (by decide) (by decide)) X6 hx hret (hb hby d5_26) ?_
  rw [e6]
  exact ⟨rfl, N6, K6, f9, f10, F6⟩
set_option maxRecDepth 65536 in
set_option maxHeartbeats 40000000 in
theorem rmY (l : Launch) (Z : State) (a0 : Array Value) (hw : ∀ d ∈ tables_1, d.before a0 Z = true) (ws : List Jvm.Cond) (xx cA : Addr) (aa bb : Addr) (kk : ClassId) (kc : ClassId) (h0 : Heap) (n0 : Nat) (Z0 : n0 ≤ h0.size) (VA : Arv Z h0 cA kc .char (0 : Int32) [] (.int (0 : Int32))) (Ex : Exa Z h0 xx "java/lang/String") (Fv : Fld Z h0 xx "java/lang/String" "value" "[B" .null) (Fc : Fld Z h0 xx "java/lang/String" "coder" "B" (.int (0 : Int32))) (gx : n0 ≤ xx) (O0 : Old Z n0 h0) (FA1 : Fld Z h0 aa "java/lang/String" "value" "[B" (.ref bb)) (FA2 : Fld Z h0 aa "java/lang/String" "coder" "B" (.int (0 : Int32))) (FB : Arv Z h0 bb kk .byte (0 : Int32) [] (.int 0)) :
    Ctr ReturnedEndW l Z (⟨"java/lang/String", "<init>", "([C)V"⟩ : MethodName) jdk_42_method_3_code 2 none ws ({ frames := 2, cells := 2, slots := 4, locals := 34 } : Room) #[(.ref xx), (.ref cA)] h0 (fun vm => Lit (Z.setVm vm) "java/lang/String" 7 aa) (QZ1 Z n0 h0 xx bb) := by
  refine Ctr.intro (plainFor_of_name pn_java_lang_String) (Ls := #[.val (.ref xx), .val (.ref cA)]) (fun m => by first | (simp [entryFrame, mkF, argsToLocals, Value.category]; done) | rfl) ?_
  intro p e s m below meth c T0 hx hby hml hown hnm hret hlk hZ hV hsh e0 X0
  have N0 := Fr.nil n0
  have hS : s.Since s.vm 0 := (State.WarmedH.refl s).since 0
  have hk : 0 ≤ h0.size := Nat.zero_le _
  have X0 : Stand p l e ({ frames := 2, cells := 2, slots := 4, locals := 34 } : Room) (s.setVm s.vm) m #[(.ref xx), (.ref cA)] below meth c T0 [] 0 0 := X0
  have hZ : Z.Warmed39 (s.setVm s.vm).vm := hZ
  have hown : (s.setVm s.vm).vm.findClass "java/lang/String" = some m.cls := hown
  have nax : aa ≠ xx := FA1.ne Fv (by simp)
  have nbx : bb ≠ xx := Ne.symm (Ex.neArv FB (wAt hw 10 rfl))
  show Done _ p e below s _ _ (T0.setTop (mkF m 0 #[oR xx, oR cA] []))
  refine Done.step (fun _ => XS.aloadN X0.here hx rfl (hb hby d4_0) rfl rfl) ?_
  show Done _ p e below s _ _ (T0.setTop (mkF m 1 #[oR xx, oR cA] [(.ref xx)]))
  refine Done.step (fun _ => XS.aloadN X0.here hx rfl (hb hby d4_1) rfl rfl) ?_
  show Done _ p e below s _ _ (T0.setTop (mkF m 2 #[oR xx, oR cA] [(.ref cA), (.ref xx)]))
  refine Done.step (fun _ => XT.iconstV X0.here hx rfl (0 : Int32) (hb hby d4_2) (by decide)) ?_
  show Done _ p e below s _ _ (T0.setTop (mkF m 3 #[oR xx, oR cA] [(.int (0 : Int32)), (.ref cA), (.ref xx)]))
  refine Done.step (fun _ => XS.aloadN X0.here hx rfl (hb hby d4_3) rfl rfl) ?_
  show Done _ p e below s _ _ (T0.setTop (mkF m 4 #[oR xx, oR cA] [(.ref cA), (.int (0 : Int32)), (.ref cA), (.ref xx)]))
  obtain ⟨cl1, Ar1, q1, S1, Nn1, H1, G1⟩ := id VA
  refine Done.step (X0.arraylength hx (by first | exact Ar1.1 | (rw [e0]; exact Ar1.1)) (State.isArrayOf_alike hZ.alike Ar1.2.1) (g := (mkF m 4 #[oR xx, oR cA] [(.ref cA), (.int (0 : Int32)), (.ref cA), (.ref xx)])) rfl rfl (hb hby d4_4)) ?_
  rw [len_of S1 Nn1]
  show Done _ p e below s _ _ (T0.setTop (mkF m 5 #[oR xx, oR cA] [(.int (0 : Int32)), (.int (0 : Int32)), (.ref cA), (.ref xx)]))
  refine Done.step (fun _ => XS.aconstNull X0.here hx rfl (hb hby d4_5)) ?_
  show Done _ p e below s _ _ (T0.setTop (mkF m 6 #[oR xx, oR cA] [.null, (.int (0 : Int32)), (.int (0 : Int32)), (.ref cA), (.ref xx)]))
  refine Done.callIW X0 hx hZ rfl hown hS hk (wAt hw 19 rfl) (wAt hw 20 rfl) (wAt hw 11 rfl) (wAt hw 22 rfl) (by decide) (rmY4 l Z a0 hw [] xx cA aa bb kk h0 n0 Z0 Ex Fv Fc gx O0 FA1 FA2 FB) (fun vm' hW => own_litV hV hW) e0 (g := (mkF m 6 #[oR xx, oR cA] [.null, (.int (0 : Int32)), (.int (0 : Int32)), (.ref cA), (.ref xx)])) rfl (by rw [hml]; rfl) xx [(.ref cA), (.int (0 : Int32)), (.int (0 : Int32)), .null] [] 0 (lenOf pd_0 rfl) rfl rfl (by show 2 * 0 + _ ≤ _; exact Nat.le_of_eq rfl) (hb hby d4_6) (by decide) (by decide) (by decide) (by decide) ?_
  intro T2 v2 L2 X2 hS hZ hown hW2 q2
  have hk := Nat.le_refl T2.heap.size
  obtain ⟨rfl, Nq2, K2q, Exqq, Fvqq, Fcqq⟩ := q2
  have N2 := Fr.app N0 Nq2
  have Zs2 := Nat.le_trans Z0 K2q.1
  have K2 := (Keep.refl h0 [xx]).trans K2q (allS (Or.inl (List.mem_of_getElem? (i := 0) rfl)) all0)
  show Done _ p e below s _ _ (T2.setTop (mkF m 9 #[oR xx, oR cA] []))
  exact Done.retV (leavesW X2 hS (by first | exact hk | (rw [rfl]; exact hk)) hlk (by decide) (by decide)) X2 hx hret (hb hby d4_9) ⟨rfl, N2, K2, Exqq, Fvqq, Fcqq⟩
def own_max (a b : Int64) : Int64 := if a < b then b else a
theorem own_narI (x : Int32) : nar .char (x.toUInt32.toUInt16.toUInt32.toInt32) = x.toUInt32.toUInt16.toUInt32.toInt32 := by
  have h := own_toInt16 x
  have z : (0 : Int32).toInt = 0 := rfl
  have y : (65535 : Int32).toInt = 65535 := rfl
  refine own_nar ?_ ?_ <;> rw [Int32.lt_iff_toInt_lt, h] <;> omega
def own_ch (b k : Int32) : Int32 := ((b >>> (((8 : Int32) * k) &&& 31)) &&& (255 : Int32)).toUInt32.toUInt16.toUInt32.toInt32
theorem own_m255 (x : Int32) : (x &&& (255 : Int32)).toInt = x.toInt % 2 ^ 8 := Jvm.Kit.i32_mask x _ (k := 8) (by decide) (by decide)
theorem own_chb (b k : Int32) : ¬ own_ch b k < 0 ∧ ¬ (255 : Int32) < own_ch b k := by
  have z : (0 : Int32).toInt = 0 := rfl
  have y : (255 : Int32).toInt = 255 := rfl
  unfold own_ch
  rw [Int32.lt_iff_toInt_lt, Int32.lt_iff_toInt_lt, own_toInt16, own_m255, z, y]
  omega
def own_u8 (c : Int32) : Int32 := if c < (128 : Int32) then 1 else 2
theorem own_u8b (c : Int32) : (own_u8 c).toInt = 1 ∨ (own_u8 c).toInt = 2 := by unfold own_u8; split; exact Or.inl rfl; exact Or.inr rfl
theorem own_cp (x : Int32) (k : Int32) (hk : 255 < k.toInt) : (x &&& (255 : Int32)) < k := by
  rw [Int32.lt_iff_toInt_lt, own_m255]; omega
theorem own_s1 (a : Int32) : ((0 : Int32) + own_u8 a).toInt = (own_u8 a).toInt := by rw [Int32.zero_add]
theorem own_s2 (a b : Int32) : ((0 : Int32) + own_u8 a + own_u8 b).toInt = (own_u8 a).toInt + (own_u8 b).toInt := by
  have h1 := own_u8b a
  have h2 := own_u8b b
  rw [Jvm.Kit.i32_add, own_s1] <;> rw [own_s1] <;> omega
theorem own_s3 (a b c : Int32) : ((0 : Int32) + own_u8 a + own_u8 b + own_u8 c).toInt = (own_u8 a).toInt + (own_u8 b).toInt + (own_u8 c).toInt := by
  have h1 := own_u8b a
  have h2 := own_u8b b
  have h3 := own_u8b c
  rw [Jvm.Kit.i32_add, own_s2] <;> rw [own_s2] <;> omega
theorem own_l1 (a : Int32) : ¬ (1048576 : Int32) < (0 : Int32) + own_u8 a := by
  have h1 := own_u8b a
  have e : (1048576 : Int32).toInt = 1048576 := rfl
  rw [Int32.lt_iff_toInt_lt, own_s1, e]; omega
theorem own_l2 (a b : Int32) : ¬ (1048576 : Int32) < (0 : Int32) + own_u8 a + own_u8 b := by
  have h1 := own_u8b a
  have h2 := own_u8b b
  have e : (1048576 : Int32).toInt = 1048576 := rfl
  rw [Int32.lt_iff_toInt_lt, own_s2, e]; omega
theorem own_l3 (a b c : Int32) : ¬ (1048576 : Int32) < (0 : Int32) + own_u8 a + own_u8 b + own_u8 c := by
  have h1 := own_u8b a
  have h2 := own_u8b b
  have h3 := own_u8b c
  have e : (1048576 : Int32).toInt = 1048576 := rfl
  rw [Int32.lt_iff_toInt_lt, own_s3, e]; omega
theorem d1_0 : decode jdk_29_method_66_code 0 = .ok (.lload_n 0, 1) := by decide +kernel
theorem d1_1 : decode jdk_29_method_66_code 1 = .ok (.lload_n 2, 1) := by decide +kernel
theorem d1_2 : decode jdk_29_method_66_code 2 = .ok (.lcmp, 1) := by decide +kernel
theorem d1_3 : decode jdk_29_method_66_code 3 = .ok (.ifCond .lt 7, 3) := by decide +kernel
theorem d1_10 : decode jdk_29_method_66_code 10 = .ok (.lload_n 2, 1) := by decide +kernel
theorem d1_11 : decode jdk_29_method_66_code 11 = .ok (.lreturn, 1) := by decide +kernel
theorem d1_6 : decode jdk_29_method_66_code 6 = .ok (.lload_n 0, 1) := by decide +kernel
theorem d1_7 : decode jdk_29_method_66_code 7 = .ok (.goto 4, 3) := by decide +kernel
set_option maxRecDepth 65536 in
set_option maxHeartbeats 40000000 in
theorem rmMx (l : Launch) (Z : State) (a0 : Array Value) (hw : ∀ d ∈ tables_1, d.before a0 Z = true) (ws : List Jvm.Cond) (a b : Int64) (h0 : Heap) (n0 : Nat) (Z0 : n0 ≤ h0.size)  :
    Ctr FrameEnd l Z (⟨"java/lang/Math", "max", "(JJ)J"⟩ : MethodName) jdk_29_method_66_code 4 (some .long) ws ({ frames := 0, cells := 0, slots := 0, locals := 0 } : Room) #[(.long a), (.long b)] h0 TrueV (PureQ (some (.long (own_max a b))) h0) := by
  refine Ctr.intro (Jvm.Free.JP.mathPlain rfl (by decide +kernel)) (Ls := #[.val (.long a), .second, .val (.long b), .second]) (fun m => by first | (simp [entryFrame, mkF, argsToLocals, Value.category]; done) | rfl) ?_
  intro p e s m below meth c T0 hx hby hml hown hnm hret hlk hZ hV hsh e0 X0
  have N0 := Fr.nil n0
  show Done _ p e below s _ _ (T0.setTop (mkF m 0 #[oJ a, .second, oJ b, .second] []))
  refine Done.step (fun _ => XT.lloadN X0.here hx rfl (hb hby d1_0) rfl) ?_
  show Done _ p e below s _ _ (T0.setTop (mkF m 1 #[oJ a, .second, oJ b, .second] [(.long a)]))
  refine Done.step (fun _ => XT.lloadN X0.here hx rfl (hb hby d1_1) rfl) ?_
  show Done _ p e below s _ _ (T0.setTop (mkF m 2 #[oJ a, .second, oJ b, .second] [(.long b), (.long a)]))
  refine Done.step (fun _ => XT.lcmp X0.here hx rfl (hb hby d1_2) rfl) ?_
  show Done _ p e below s _ _ (T0.setTop (mkF m 3 #[oJ a, .second, oJ b, .second] [(.int (XT.cmpL a b))]))
  by_cases hc1 : a < b
  · refine Done.step (fun _ => XS.ifYes X0.here hx rfl (pc0 := 3) (pc' := 10) rfl (hb hby d1_3) rfl (XT.ll_lt_t hc1) (by decide) (by decide)) ?_
    show Done _ p e below s _ _ (T0.setTop (mkF m 10 #[oJ a, .second, oJ b, .second] []))
    refine Done.step (fun _ => XT.lloadN X0.here hx rfl (hb hby d1_10) rfl) ?_
    show Done _ p e below s _ _ (T0.setTop (mkF m 11 #[oJ a, .second, oJ b, .second] [(.long b)]))
    exact Done.retJ (leavesF X0 hlk (by decide) (by decide)) X0 hx hret (hb hby d1_11) ⟨by unfold own_max; rw [if_pos hc1], e0, rfl⟩
  · refine Done.step (fun _ => XS.ifNo X0.here hx rfl (hb hby d1_3) rfl (XT.ll_lt_f hc1)) ?_
    show Done _ p e below s _ _ (T0.setTop (mkF m 6 #[oJ a, .second, oJ b, .second] []))
    refine Done.step (fun _ => XT.lloadN X0.here hx rfl (hb hby d1_6) rfl) ?_
    show Done _ p e below s _ _ (T0.setTop (mkF m 7 #[oJ a, .second, oJ b, .second] [(.long a)]))
    refine Done.step (fun _ => XS.goto X0.here hx rfl (pc0 := 7) (pc' := 11) rfl (hb hby d1_7) (by decide) (by decide)) ?_
    show Done _ p e below s _ _ (T0.setTop (mkF m 11 #[oJ a, .second, oJ b, .second] [(.long a)]))
    exact Done.retJ (leavesF X0 hlk (by decide) (by decide)) X0 hx hret (hb hby d1_11) ⟨by unfold own_max; rw [if_neg hc1], e0, rfl⟩
theorem pn_com_example_minho_minho_core_VersionedValueEqualsPinLaw : plainName "com/example/minho/minho/core/VersionedValueEqualsPinLaw" = true := by first | (simp [plainName, overriddenIn]; done) | decide +kernel
theorem d3_0 : decode method_3_code 0 = .ok (.iload_n 0, 1) := by decide +kernel
theorem d3_1 : decode method_3_code 1 = .ok (.bipush 8, 2) := by decide +kernel
theorem d3_3 : decode method_3_code 3 = .ok (.iload_n 1, 1) := by decide +kernel
theorem d3_4 : decode method_3_code 4 = .ok (.imul, 1) := by decide +kernel
theorem d3_5 : decode method_3_code 5 = .ok (.ishr, 1) := by decide +kernel
theorem d3_6 : decode method_3_code 6 = .ok (.sipush 255, 3) := by decide +kernel
theorem d3_9 : decode method_3_code 9 = .ok (.iand, 1) := by decide +kernel
theorem d3_10 : decode method_3_code 10 = .ok (.i2c, 1) := by decide +kernel
theorem d3_11 : decode method_3_code 11 = .ok (.ireturn, 1) := by decide +kernel
set_option maxRecDepth 65536 in
set_option maxHeartbeats 40000000 in
theorem rmCh (l : Launch) (Z : State) (a0 : Array Value) (hw : ∀ d ∈ tables_1, d.before a0 Z = true) (ws : List Jvm.Cond) (a b : Int32) (h0 : Heap) (n0 : Nat) (Z0 : n0 ≤ h0.size)  :
    Ctr FrameEnd l Z (⟨"com/example/minho/minho/core/VersionedValueEqualsPinLaw", "ch", "(II)C"⟩ : MethodName) method_3_code 2 (some .char) ws ({ frames := 0, cells := 0, slots := 0, locals := 0 } : Room) #[(.int a), (.int b)] h0 TrueV (PureQ (some (.int (own_ch a b))) h0) := by
  refine Ctr.intro (plainFor_of_name pn_com_example_minho_minho_core_VersionedValueEqualsPinLaw) (Ls := #[.val (.int a), .val (.int b)]) (fun m => by first | (simp [entryFrame, mkF, argsToLocals, Value.category]; done) | rfl) ?_
  intro p e s m below meth c T0 hx hby hml hown hnm hret hlk hZ hV hsh e0 X0
  have N0 := Fr.nil n0
  show Done _ p e below s _ _ (T0.setTop (mkF m 0 #[oI a, oI b] []))
  refine Done.step (fun _ => XS.iloadN X0.here hx rfl (hb hby d3_0) rfl) ?_
  show Done _ p e below s _ _ (T0.setTop (mkF m 1 #[oI a, oI b] [(.int a)]))
  refine Done.step (fun _ => XT.bipushV X0.here hx rfl (8 : Int32) (hb hby d3_1) (by decide)) ?_
  show Done _ p e below s _ _ (T0.setTop (mkF m 3 #[oI a, oI b] [(.int (8 : Int32)), (.int a)]))
  refine Done.step (fun _ => XS.iloadN X0.here hx rfl (hb hby d3_3) rfl) ?_
  show Done _ p e below s _ _ (T0.setTop (mkF m 4 #[oI a, oI b] [(.int b), (.int (8 : Int32)), (.int a)]))
  refine Done.step (fun _ => XS.imul X0.here hx rfl (hb hby d3_4) rfl) ?_
  show Done _ p e below s _ _ (T0.setTop (mkF m 5 #[oI a, oI b] [(.int ((8 : Int32) * b)), (.int a)]))
  refine Done.step (fun _ => XT.ishr X0.here hx rfl (hb hby d3_5) rfl) ?_
  show Done _ p e below s _ _ (T0.setTop (mkF m 6 #[oI a, oI b] [(.int (a >>> (((8 : Int32) * b) &&& 31)))]))
  refine Done.step (fun _ => XT.sipushV X0.here hx rfl (255 : Int32) (hb hby d3_6) (by decide)) ?_
  show Done _ p e below s _ _ (T0.setTop (mkF m 9 #[oI a, oI b] [(.int (255 : Int32)), (.int (a >>> (((8 : Int32) * b) &&& 31)))]))
  refine Done.step (fun _ => XS.iand X0.here hx rfl (hb hby d3_9) rfl) ?_
  show Done _ p e below s _ _ (T0.setTop (mkF m 10 #[oI a, oI b] [(.int ((a >>> (((8 : Int32) * b) &&& 31)) &&& (255 : Int32)))]))
  refine Done.step (fun _ => XT.i2c X0.here hx rfl (hb hby d3_10) rfl) ?_
  show Done _ p e below s _ _ (T0.setTop (mkF m 11 #[oI a, oI b] [(.int (((a >>> (((8 : Int32) * b) &&& 31)) &&& (255 : Int32)).toUInt32.toUInt16.toUInt32.toInt32))]))
  exact Done.retN (leavesF X0 hlk (by decide) (by decide)) X0 hx (t := .char) hret (by simp) (hb hby d3_11) ⟨by rw [own_narI]; rfl, e0, rfl⟩
theorem pn_com_example_minho_minho_core_Limits : plainName "com/example/minho/minho/core/Limits" = true := by first | (simp [plainName, overriddenIn]; done) | decide +kernel
theorem d19_0 : decode prog_23_method_10_code 0 = .ok (.iload_n 0, 1) := by decide +kernel
theorem d19_1 : decode prog_23_method_10_code 1 = .ok (.sipush 128, 3) := by decide +kernel
theorem d19_4 : decode prog_23_method_10_code 4 = .ok (.if_icmp .ge 8, 3) := by decide +kernel
theorem d19_7 : decode prog_23_method_10_code 7 = .ok (.iconst 1, 1) := by decide +kernel
theorem d19_8 : decode prog_23_method_10_code 8 = .ok (.istore_n 1, 1) := by decide +kernel
theorem d19_9 : decode prog_23_method_10_code 9 = .ok (.goto 28, 3) := by decide +kernel
theorem d19_37 : decode prog_23_method_10_code 37 = .ok (.iload_n 1, 1) := by decide +kernel
theorem d19_38 : decode prog_23_method_10_code 38 = .ok (.ireturn, 1) := by decide +kernel
theorem d19_12 : decode prog_23_method_10_code 12 = .ok (.iload_n 0, 1) := by decide +kernel
theorem d19_13 : decode prog_23_method_10_code 13 = .ok (.sipush 2048, 3) := by decide +kernel
theorem d19_16 : decode prog_23_method_10_code 16 = .ok (.if_icmp .ge 8, 3) := by decide +kernel
theorem d19_19 : decode prog_23_method_10_code 19 = .ok (.iconst 2, 1) := by decide +kernel
theorem d19_20 : decode prog_23_method_10_code 20 = .ok (.istore_n 1, 1) := by decide +kernel
theorem d19_21 : decode prog_23_method_10_code 21 = .ok (.goto 16, 3) := by decide +kernel
set_option maxRecDepth 65536 in
set_option maxHeartbeats 40000000 in
theorem rmU8 (l : Launch) (Z : State) (a0 : Array Value) (hw : ∀ d ∈ tables_1, d.before a0 Z = true) (ws : List Jvm.Cond) (cv : Int32) (h0 : Heap) (n0 : Nat) (Z0 : n0 ≤ h0.size) (h2 : cv < (2048 : Int32)) :
    Ctr FrameEnd l Z (⟨"com/example/minho/minho/core/Limits", "utf8Length", "(I)I"⟩ : MethodName) prog_23_method_10_code 2 (some .int) ws ({ frames := 0, cells := 0, slots := 0, locals := 0 } : Room) #[(.int cv)] h0 TrueV (PureQ (some (.int (own_u8 cv))) h0) := by
  refine Ctr.intro (plainFor_of_name pn_com_example_minho_minho_core_Limits) (Ls := #[.val (.int cv), .unset]) (fun m => by first | (simp [entryFrame, mkF, argsToLocals, Value.category]; done) | rfl) ?_
  intro p e s m below meth c T0 hx hby hml hown hnm hret hlk hZ hV hsh e0 X0
  have N0 := Fr.nil n0
  show Done _ p e below s _ _ (T0.setTop (mkF m 0 #[oI cv, .unset] []))
  refine Done.step (fun _ => XS.iloadN X0.here hx rfl (hb hby d19_0) rfl) ?_
  show Done _ p e below s _ _ (T0.setTop (mkF m 1 #[oI cv, .unset] [(.int cv)]))
  refine Done.step (fun _ => XT.sipushV X0.here hx rfl (128 : Int32) (hb hby d19_1) (by decide)) ?_
  show Done _ p e below s _ _ (T0.setTop (mkF m 4 #[oI cv, .unset] [(.int (128 : Int32)), (.int cv)]))
  by_cases hc1 : cv < (128 : Int32)
  · refine Done.step (fun _ => XS.icmpNo X0.here hx rfl (hb hby d19_4) rfl (XT.ii_ge_f hc1)) ?_
    show Done _ p e below s _ _ (T0.setTop (mkF m 7 #[oI cv, .unset] []))
    refine Done.step (fun _ => XT.iconstV X0.here hx rfl (1 : Int32) (hb hby d19_7) (by decide)) ?_
    show Done _ p e below s _ _ (T0.setTop (mkF m 8 #[oI cv, .unset] [(.int (1 : Int32))]))
    refine Done.step (fun _ => XS.istoreN X0.here hx rfl (hb hby d19_8) rfl (l' := #[oI cv, oI (1 : Int32)]) rfl) ?_
    show Done _ p e below s _ _ (T0.setTop (mkF m 9 #[oI cv, oI (1 : Int32)] []))
    refine Done.step (fun _ => XS.goto X0.here hx rfl (pc0 := 9) (pc' := 37) rfl (hb hby d19_9) (by decide) (by decide)) ?_
    show Done _ p e below s _ _ (T0.setTop (mkF m 37 #[oI cv, oI (1 : Int32)] []))
    refine Done.step (fun _ => XS.iloadN X0.here hx rfl (hb hby d19_37) rfl) ?_
    show Done _ p e below s _ _ (T0.setTop (mkF m 38 #[oI cv, oI (1 : Int32)] [(.int (1 : Int32))]))
    exact Done.retI (leavesF X0 hlk (by decide) (by decide)) X0 hx hret (hb hby d19_38) ⟨by unfold own_u8; rw [if_pos hc1], e0, rfl⟩
  · refine Done.step (fun _ => XS.icmpYes X0.here hx rfl (pc0 := 4) (pc' := 12) rfl (hb hby d19_4) rfl (XT.ii_ge_t hc1) (by decide) (by decide)) ?_
    show Done _ p e below s _ _ (T0.setTop (mkF m 12 #[oI cv, .unset] []))
    refine Done.step (fun _ => XS.iloadN X0.here hx rfl (hb hby d19_12) rfl) ?_
    show Done _ p e below s _ _ (T0.setTop (mkF m 13 #[oI cv, .unset] [(.int cv)]))
    refine Done.step (fun _ => XT.sipushV X0.here hx rfl (2048 : Int32) (hb hby d19_13) (by decide)) ?_
    show Done _ p e below s _ _ (T0.setTop (mkF m 16 #[oI cv, .unset] [(.int (2048 : Int32)), (.int cv)]))
    refine Done.step (fun _ => XS.icmpNo X0.here hx rfl (hb hby d19_16) rfl (XT.ii_ge_f h2)) ?_
    show Done _ p e below s _ _ (T0.setTop (mkF m 19 #[oI cv, .unset] []))
    refine Done.step (fun _ => XT.iconstV X0.here hx rfl (2 : Int32) (hb hby d19_19) (by decide)) ?_
    show Done _ p e below s _ _ (T0.setTop (mkF m 20 #[oI cv, .unset] [(.int (2 : Int32))]))
    refine Done.step (fun _ => XS.istoreN X0.here hx rfl (hb hby d19_20) rfl (l' := #[oI cv, oI (2 : Int32)]) rfl) ?_
    show Done _ p e below s _ _ (T0.setTop (mkF m 21 #[oI cv, oI (2 : Int32)] []))
    refine Done.step (fun _ => XS.goto X0.here hx rfl (pc0 := 21) (pc' := 37) rfl (hb hby d19_21) (by decide) (by decide)) ?_
    show Done _ p e below s _ _ (T0.setTop (mkF m 37 #[oI cv, oI (2 : Int32)] []))
    refine Done.step (fun _ => XS.iloadN X0.here hx rfl (hb hby d19_37) rfl) ?_
    show Done _ p e below s _ _ (T0.setTop (mkF m 38 #[oI cv, oI (2 : Int32)] [(.int (2 : Int32))]))
    exact Done.retI (leavesF X0 hlk (by decide) (by decide)) X0 hx hret (hb hby d19_38) ⟨by unfold own_u8; rw [if_neg hc1], e0, rfl⟩
theorem pn_java_lang_Character : plainName "java/lang/Character" = true := by first | (simp [plainName, overriddenIn]; done) | decide +kernel
theorem d20_0 : decode jdk_89_method_18_code 0 = .ok (.iload_n 0, 1) := by decide +kernel
theorem d20_1 : decode jdk_89_method_18_code 1 = .ok (.ldc 73, 2) := by decide +kernel
theorem d20_3 : decode jdk_89_method_18_code 3 = .ok (.if_icmp .lt 7, 3) := by decide +kernel
theorem d20_10 : decode jdk_89_method_18_code 10 = .ok (.iconst 1, 1) := by decide +kernel
theorem d20_11 : decode jdk_89_method_18_code 11 = .ok (.ireturn, 1) := by decide +kernel
set_option maxRecDepth 65536 in
set_option maxHeartbeats 40000000 in
theorem rmCC (l : Launch) (Z : State) (a0 : Array Value) (hw : ∀ d ∈ tables_1, d.before a0 Z = true) (ws : List Jvm.Cond) (cv : Int32) (h0 : Heap) (n0 : Nat) (Z0 : n0 ≤ h0.size) (h2 : cv < (65536 : Int32)) :
    Ctr FrameEnd l Z (⟨"java/lang/Character", "charCount", "(I)I"⟩ : MethodName) jdk_89_method_18_code 1 (some .int) ws ({ frames := 0, cells := 0, slots := 0, locals := 0 } : Room) #[(.int cv)] h0 TrueV (PureQ (some (.int (1 : Int32))) h0) := by
  refine Ctr.intro (plainFor_of_name pn_java_lang_Character) (Ls := #[.val (.int cv)]) (fun m => by first | (simp [entryFrame, mkF, argsToLocals, Value.category]; done) | rfl) ?_
  intro p e s m below meth c T0 hx hby hml hown hnm hret hlk hZ hV hsh e0 X0
  have N0 := Fr.nil n0
  show Done _ p e below s _ _ (T0.setTop (mkF m 0 #[oI cv] []))
  refine Done.step (fun _ => XS.iloadN X0.here hx rfl (hb hby d20_0) rfl) ?_
  show Done _ p e below s _ _ (T0.setTop (mkF m 1 #[oI cv] [(.int cv)]))
  refine Done.step (fun _ => Stand.ldcI X0 hx hown (mvT hZ (wAt hw 96 rfl)) (g := (mkF m 1 #[oI cv] [(.int cv)])) rfl (hb hby d20_1)) ?_
  show Done _ p e below s _ _ (T0.setTop (mkF m 3 #[oI cv] [(.int (65536 : Int32)), (.int cv)]))
  refine Done.step (fun _ => XS.icmpYes X0.here hx rfl (pc0 := 3) (pc' := 10) rfl (hb hby d20_3) rfl (XT.ii_lt_t h2) (by decide) (by decide)) ?_
  show Done _ p e below s _ _ (T0.setTop (mkF m 10 #[oI cv] []))
  refine Done.step (fun _ => XT.iconstV X0.here hx rfl (1 : Int32) (hb hby d20_10) (by decide)) ?_
  show Done _ p e below s _ _ (T0.setTop (mkF m 11 #[oI cv] [(.int (1 : Int32))]))
  exact Done.retI (leavesF X0 hlk (by decide) (by decide)) X0 hx hret (hb hby d20_11) ⟨rfl, e0, rfl⟩
theorem own_cat {v : Value} (h : v.isRef = true) : v.category = 1 := by rcases ref_cases h with rfl | ⟨a, rfl⟩ <;> rfl
theorem pn_jdk_internal_util_Preconditions : plainName "jdk/internal/util/Preconditions" = true := by first | (simp [plainName, overriddenIn]; done) | decide +kernel
theorem d18_0 : decode jdk_41_method_11_code 0 = .ok (.iload_n 0, 1) := by decide +kernel
theorem d18_1 : decode jdk_41_method_11_code 1 = .ok (.ifCond .lt 8, 3) := by decide +kernel
theorem d18_4 : decode jdk_41_method_11_code 4 = .ok (.iload_n 0, 1) := by decide +kernel
theorem d18_5 : decode jdk_41_method_11_code 5 = .ok (.iload_n 1, 1) := by decide +kernel
theorem d18_6 : decode jdk_41_method_11_code 6 = .ok (.if_icmp .lt 10, 3) := by decide +kernel
theorem d18_16 : decode jdk_41_method_11_code 16 = .ok (.iload_n 0, 1) := by decide +kernel
theorem d18_17 : decode jdk_41_method_11_code 17 = .ok (.ireturn, 1) := by decide +kernel
set_option maxRecDepth 65536 in
set_option maxHeartbeats 40000000 in
theorem rmPC (l : Launch) (Z : State) (a0 : Array Value) (hw : ∀ d ∈ tables_1, d.before a0 Z = true) (ws : List Jvm.Cond) (i n : Int32) (fm : Value) (h0 : Heap) (n0 : Nat) (Z0 : n0 ≤ h0.size) (rF : fm.isRef = true) (g0 : ¬ i < (0 : Int32)) (g1 : i < n) :
    Ctr FrameEnd l Z (⟨"jdk/internal/util/Preconditions", "checkIndex", "(IILjava/util/function/BiFunction;)I"⟩ : MethodName) jdk_41_method_11_code 3 (some .int) ws ({ frames := 0, cells := 0, slots := 0, locals := 0 } : Room) #[(.int i), (.int n), fm] h0 TrueV (PureQ (some (.int i)) h0) := by
  refine Ctr.intro (plainFor_of_name pn_jdk_internal_util_Preconditions) (Ls := #[.val (.int i), .val (.int n), .val fm]) (fun m => by rcases ref_cases rF with rfl | ⟨q, rfl⟩ <;> first | (simp [entryFrame, mkF, argsToLocals, Value.category]; done) | rfl) ?_
  intro p e s m below meth c T0 hx hby hml hown hnm hret hlk hZ hV hsh e0 X0
  have N0 := Fr.nil n0
  show Done _ p e below s _ _ (T0.setTop (mkF m 0 #[oI i, oI n, .val fm] []))
  refine Done.step (fun _ => XS.iloadN X0.here hx rfl (hb hby d18_0) rfl) ?_
  show Done _ p e below s _ _ (T0.setTop (mkF m 1 #[oI i, oI n, .val fm] [(.int i)]))
  refine Done.step (fun _ => XS.ifNo X0.here hx rfl (hb hby d18_1) rfl (XT.i0_lt_f g0)) ?_
  show Done _ p e below s _ _ (T0.setTop (mkF m 4 #[oI i, oI n, .val fm] []))
  refine Done.step (fun _ => XS.iloadN X0.here hx rfl (hb hby d18_4) rfl) ?_
  show Done _ p e below s _ _ (T0.setTop (mkF m 5 #[oI i, oI n, .val fm] [(.int i)]))
  refine Done.step (fun _ => XS.iloadN X0.here hx rfl (hb hby d18_5) rfl) ?_
  show Done _ p e below s _ _ (T0.setTop (mkF m 6 #[oI i, oI n, .val fm] [(.int n), (.int i)]))
  refine Done.step (fun _ => XS.icmpYes X0.here hx rfl (pc0 := 6) (pc' := 16) rfl (hb hby d18_6) rfl (XT.ii_lt_t g1) (by decide) (by decide)) ?_
  show Done _ p e below s _ _ (T0.setTop (mkF m 16 #[oI i, oI n, .val fm] []))
  refine Done.step (fun _ => XS.iloadN X0.here hx rfl (hb hby d18_16) rfl) ?_
  show Done _ p e below s _ _ (T0.setTop (mkF m 17 #[oI i, oI n, .val fm] [(.int i)]))
  exact Done.retI (leavesF X0 hlk (by decide) (by decide)) X0 hx hret (hb hby d18_17) ⟨rfl, e0, rfl⟩
theorem d17_0 : decode jdk_42_method_155_code 0 = .ok (.iload_n 0, 1) := by decide +kernel
theorem d17_1 : decode jdk_42_method_155_code 1 = .ok (.iload_n 1, 1) := by decide +kernel
theorem d17_2 : decode jdk_42_method_155_code 2 = .ok (.getstatic 1053, 3) := by decide +kernel
theorem d17_5 : decode jdk_42_method_155_code 5 = .ok (.invokestatic 1059, 3) := by decide +kernel
theorem pd_1 : parseMethodDescriptor "(IILjava/util/function/BiFunction;)I" = some ⟨[.int, .int, (.object "java/util/function/BiFunction")], some .int⟩ := by decide +kernel
theorem d17_8 : decode jdk_42_method_155_code 8 = .ok (.pop, 1) := by decide +kernel
theorem d17_9 : decode jdk_42_method_155_code 9 = .ok (.return_, 1) := by decide +kernel
set_option maxRecDepth 65536 in
set_option maxHeartbeats 40000000 in
theorem rmCI (l : Launch) (Z : State) (a0 : Array Value) (hw : ∀ d ∈ tables_1, d.before a0 Z = true) (ws : List Jvm.Cond) (i n z : Int32) (fm : Value) (h0 : Heap) (n0 : Nat) (Z0 : n0 ≤ h0.size) (O0 : Old Z n0 h0) (SC : Sta Z Z.heap "java/lang/String" "COMPACT_STRINGS" "Z" (.int z)) (hz : ¬ z = 0) (SF : Sta Z Z.heap "jdk/internal/util/Preconditions" "SIOOBE_FORMATTER" "Ljava/util/function/BiFunction;" fm) (rF : fm.isRef = true) (g0 : ¬ i < (0 : Int32)) (g1 : i < n) :
    Ctr FrameEnd l Z (⟨"java/lang/String", "checkIndex", "(II)V"⟩ : MethodName) jdk_42_method_155_code 2 none ws ({ frames := 1, cells := 0, slots := 0, locals := 14 } : Room) #[(.int i), (.int n)] h0 TrueV (PureQ none h0) := by
  refine Ctr.intro (plainFor_of_name pn_java_lang_String) (Ls := #[.val (.int i), .val (.int n)]) (fun m => by first | (simp [entryFrame, mkF, argsToLocals, Value.category]; done) | rfl) ?_
  intro p e s m below meth c T0 hx hby hml hown hnm hret hlk hZ hV hsh e0 X0
  have N0 := Fr.nil n0
  show Done _ p e below s _ _ (T0.setTop (mkF m 0 #[oI i, oI n] []))
  refine Done.step (fun _ => XS.iloadN X0.here hx rfl (hb hby d17_0) rfl) ?_
  show Done _ p e below s _ _ (T0.setTop (mkF m 1 #[oI i, oI n] [(.int i)]))
  refine Done.step (fun _ => XS.iloadN X0.here hx rfl (hb hby d17_1) rfl) ?_
  show Done _ p e below s _ _ (T0.setTop (mkF m 2 #[oI i, oI n] [(.int n), (.int i)]))
  obtain ⟨T1, X1, e1, st1⟩ := getS2 X0 hx hZ hown (host := "") (Or.inl (wAt hw 83 rfl)) Via.refl e0 (SF.ext O0.2) (g := (mkF m 2 #[oI i, oI n] [(.int n), (.int i)])) rfl (hb hby d17_2)
  refine Done.step st1 ?_
  show Done _ p e below s _ _ (T1.setTop (mkF m 5 #[oI i, oI n] [fm, (.int n), (.int i)]))
  refine Done.callSP X1 hx hZ hown (wAt hw 85 rfl) (wAt hw 86 rfl) (wAt hw 84 rfl) (wAt hw 87 rfl) (by decide) (rmPC l Z a0 hw [] i n fm h0 n0 Z0 rF g0 g1) e1 (g := (mkF m 5 #[oI i, oI n] [fm, (.int n), (.int i)])) rfl (by rw [hml]; rfl) [(.int i), (.int n), fm] [] 0 (lenOf pd_1 rfl) rfl rfl (by show 2 * 0 + _ ≤ _; exact Nat.le_of_eq rfl) (hb hby d17_5) (by decide) (by decide) (by decide) (by decide) rfl rfl ?_
  intro T2 X2 e2
  show Done _ p e below s _ _ (T2.setTop (mkF m 8 #[oI i, oI n] [(.int i)]))
  refine Done.step (fun _ => XT.pop X2.here hx rfl (hb hby d17_8) rfl rfl) ?_
  show Done _ p e below s _ _ (T2.setTop (mkF m 9 #[oI i, oI n] []))
  exact Done.retV (leavesF X2 hlk (by decide) (by decide)) X2 hx hret (hb hby d17_9) ⟨rfl, e2, rfl⟩
theorem d14_0 : decode jdk_42_method_152_code 0 = .ok (.getstatic 38, 3) := by decide +kernel
theorem d14_3 : decode jdk_42_method_152_code 3 = .ok (.ifCond .eq 10, 3) := by decide +kernel
theorem d14_6 : decode jdk_42_method_152_code 6 = .ok (.aload_n 0, 1) := by decide +kernel
theorem d14_7 : decode jdk_42_method_152_code 7 = .ok (.getfield 15, 3) := by decide +kernel
theorem d14_10 : decode jdk_42_method_152_code 10 = .ok (.goto 4, 3) := by decide +kernel
theorem d14_14 : decode jdk_42_method_152_code 14 = .ok (.ireturn, 1) := by decide +kernel
set_option maxRecDepth 65536 in
set_option maxHeartbeats 40000000 in
theorem rmCo (l : Launch) (Z : State) (a0 : Array Value) (hw : ∀ d ∈ tables_1, d.before a0 Z = true) (ws : List Jvm.Cond) (x1 : Addr) (z : Int32) (h0 : Heap) (n0 : Nat) (Z0 : n0 ≤ h0.size) (O0 : Old Z n0 h0) (SC : Sta Z Z.heap "java/lang/String" "COMPACT_STRINGS" "Z" (.int z)) (hz : ¬ z = 0) (C1 : Fld Z h0 x1 "java/lang/String" "coder" "B" (.int (0 : Int32))) :
    Ctr FrameEnd l Z (⟨"java/lang/String", "coder", "()B"⟩ : MethodName) jdk_42_method_152_code 1 (some .byte) ws ({ frames := 0, cells := 0, slots := 0, locals := 0 } : Room) #[(.ref x1)] h0 TrueV (PureQ (some (.int (0 : Int32))) h0) := by
  refine Ctr.intro (plainFor_of_name pn_java_lang_String) (Ls := #[.val (.ref x1)]) (fun m => by first | (simp [entryFrame, mkF, argsToLocals, Value.category]; done) | rfl) ?_
  intro p e s m below meth c T0 hx hby hml hown hnm hret hlk hZ hV hsh e0 X0
  have N0 := Fr.nil n0
  show Done _ p e below s _ _ (T0.setTop (mkF m 0 #[oR x1] []))
  obtain ⟨T1, X1, e1, st1⟩ := getS2 X0 hx hZ hown (host := "") (Or.inl (wAt hw 26 rfl)) Via.refl e0 (SC.ext O0.2) (g := (mkF m 0 #[oR x1] [])) rfl (hb hby d14_0)
  refine Done.step st1 ?_
  show Done _ p e below s _ _ (T1.setTop (mkF m 3 #[oR x1] [(.int z)]))
  refine Done.step (fun _ => XS.ifNo X1.here hx rfl (hb hby d14_3) rfl (XT.i0_eq_f hz)) ?_
  show Done _ p e below s _ _ (T1.setTop (mkF m 6 #[oR x1] []))
  refine Done.step (fun _ => XS.aloadN X1.here hx rfl (hb hby d14_6) rfl rfl) ?_
  show Done _ p e below s _ _ (T1.setTop (mkF m 7 #[oR x1] [(.ref x1)]))
  obtain ⟨T2, X2, e2, st2⟩ := getF X1 hx hZ hown (host := "") (Or.inl (wAt hw 38 rfl)) Via.refl e1 C1 (g := (mkF m 7 #[oR x1] [(.ref x1)])) rfl rfl (hb hby d14_7)
  refine Done.step st2 ?_
  show Done _ p e below s _ _ (T2.setTop (mkF m 10 #[oR x1] [(.int (0 : Int32))]))
  refine Done.step (fun _ => XS.goto X2.here hx rfl (pc0 := 10) (pc' := 14) rfl (hb hby d14_10) (by decide) (by decide)) ?_
  show Done _ p e below s _ _ (T2.setTop (mkF m 14 #[oR x1] [(.int (0 : Int32))]))
  exact Done.retN (leavesF X2 hlk (by decide) (by decide)) X2 hx (t := .byte) hret (by simp) (hb hby d14_14) ⟨rfl, e2, rfl⟩
theorem d16_0 : decode jdk_42_method_154_code 0 = .ok (.getstatic 38, 3) := by decide +kernel
theorem d16_3 : decode jdk_42_method_154_code 3 = .ok (.ifCond .eq 14, 3) := by decide +kernel
theorem d16_6 : decode jdk_42_method_154_code 6 = .ok (.aload_n 0, 1) := by decide +kernel
theorem d16_7 : decode jdk_42_method_154_code 7 = .ok (.getfield 15, 3) := by decide +kernel
theorem d16_10 : decode jdk_42_method_154_code 10 = .ok (.ifCond .ne 7, 3) := by decide +kernel
theorem d16_13 : decode jdk_42_method_154_code 13 = .ok (.iconst 1, 1) := by decide +kernel
theorem d16_14 : decode jdk_42_method_154_code 14 = .ok (.goto 4, 3) := by decide +kernel
theorem d16_18 : decode jdk_42_method_154_code 18 = .ok (.ireturn, 1) := by decide +kernel
set_option maxRecDepth 65536 in
set_option maxHeartbeats 40000000 in
theorem rmIL (l : Launch) (Z : State) (a0 : Array Value) (hw : ∀ d ∈ tables_1, d.before a0 Z = true) (ws : List Jvm.Cond) (x1 : Addr) (z : Int32) (h0 : Heap) (n0 : Nat) (Z0 : n0 ≤ h0.size) (O0 : Old Z n0 h0) (SC : Sta Z Z.heap "java/lang/String" "COMPACT_STRINGS" "Z" (.int z)) (hz : ¬ z = 0) (C1 : Fld Z h0 x1 "java/lang/String" "coder" "B" (.int (0 : Int32))) :
    Ctr FrameEnd l Z (⟨"java/lang/String", "isLatin1", "()Z"⟩ : MethodName) jdk_42_method_154_code 1 (some .boolean) ws ({ frames := 0, cells := 0, slots := 0, locals := 0 } : Room) #[(.ref x1)] h0 TrueV (PureQ (some (.int (1 : Int32))) h0) := by
  refine Ctr.intro (plainFor_of_name pn_java_lang_String) (Ls := #[.val (.ref x1)]) (fun m => by first | (simp [entryFrame, mkF, argsToLocals, Value.category]; done) | rfl) ?_
  intro p e s m below meth c T0 hx hby hml hown hnm hret hlk hZ hV hsh e0 X0
  have N0 := Fr.nil n0
  show Done _ p e below s _ _ (T0.setTop (mkF m 0 #[oR x1] []))
  obtain ⟨T1, X1, e1, st1⟩ := getS2 X0 hx hZ hown (host := "") (Or.inl (wAt hw 26 rfl)) Via.refl e0 (SC.ext O0.2) (g := (mkF m 0 #[oR x1] [])) rfl (hb hby d16_0)
  refine Done.step st1 ?_
  show Done _ p e below s _ _ (T1.setTop (mkF m 3 #[oR x1] [(.int z)]))
  refine Done.step (fun _ => XS.ifNo X1.here hx rfl (hb hby d16_3) rfl (XT.i0_eq_f hz)) ?_
  show Done _ p e below s _ _ (T1.setTop (mkF m 6 #[oR x1] []))
  refine Done.step (fun _ => XS.aloadN X1.here hx rfl (hb hby d16_6) rfl rfl) ?_
  show Done _ p e below s _ _ (T1.setTop (mkF m 7 #[oR x1] [(.ref x1)]))
  obtain ⟨T2, X2, e2, st2⟩ := getF X1 hx hZ hown (host := "") (Or.inl (wAt hw 38 rfl)) Via.refl e1 C1 (g := (mkF m 7 #[oR x1] [(.ref x1)])) rfl rfl (hb hby d16_7)
  refine Done.step st2 ?_
  show Done _ p e below s _ _ (T2.setTop (mkF m 10 #[oR x1] [(.int (0 : Int32))]))
  refine Done.step (fun _ => XS.ifNo X2.here hx rfl (hb hby d16_10) rfl (XT.i0_ne_f rfl)) ?_
  show Done _ p e below s _ _ (T2.setTop (mkF m 13 #[oR x1] []))
  refine Done.step (fun _ => XT.iconstV X2.here hx rfl (1 : Int32) (hb hby d16_13) (by decide)) ?_
  show Done _ p e below s _ _ (T2.setTop (mkF m 14 #[oR x1] [(.int (1 : Int32))]))
  refine Done.step (fun _ => XS.goto X2.here hx rfl (pc0 := 14) (pc' := 18) rfl (hb hby d16_14) (by decide) (by decide)) ?_
  show Done _ p e below s _ _ (T2.setTop (mkF m 18 #[oR x1] [(.int (1 : Int32))]))
  exact Done.retN (leavesF X2 hlk (by decide) (by decide)) X2 hx (t := .boolean) hret (by simp) (hb hby d16_18) ⟨rfl, e2, rfl⟩
theorem d13_0 : decode jdk_42_method_54_code 0 = .ok (.aload_n 0, 1) := by decide +kernel
theorem d13_1 : decode jdk_42_method_54_code 1 = .ok (.getfield 9, 3) := by decide +kernel
theorem d13_4 : decode jdk_42_method_54_code 4 = .ok (.arraylength, 1) := by decide +kernel
theorem d13_5 : decode jdk_42_method_54_code 5 = .ok (.aload_n 0, 1) := by decide +kernel
theorem d13_6 : decode jdk_42_method_54_code 6 = .ok (.invokevirtual 335, 3) := by decide +kernel
theorem pd_2 : parseMethodDescriptor "()B" = some ⟨[], some .byte⟩ := by decide +kernel
theorem d13_9 : decode jdk_42_method_54_code 9 = .ok (.ishr, 1) := by decide +kernel
theorem d13_10 : decode jdk_42_method_54_code 10 = .ok (.ireturn, 1) := by decide +kernel
set_option maxRecDepth 65536 in
set_option maxHeartbeats 40000000 in
theorem rmL0 (l : Launch) (Z : State) (a0 : Array Value) (hw : ∀ d ∈ tables_1, d.before a0 Z = true) (ws : List Jvm.Cond) (x1 t1 : Addr) (kb1 : ClassId) (z : Int32) (h0 : Heap) (n0 : Nat) (Z0 : n0 ≤ h0.size) (O0 : Old Z n0 h0) (SC : Sta Z Z.heap "java/lang/String" "COMPACT_STRINGS" "Z" (.int z)) (hz : ¬ z = 0) (E1 : Exa Z h0 x1 "java/lang/String") (V1 : Fld Z h0 x1 "java/lang/String" "value" "[B" (.ref t1)) (C1 : Fld Z h0 x1 "java/lang/String" "coder" "B" (.int (0 : Int32))) (K1 : Arv Z h0 t1 kb1 .byte (0 : Int32) [] (.int 0)) :
    Ctr FrameEnd l Z (⟨"java/lang/String", "length", "()I"⟩ : MethodName) jdk_42_method_54_code 1 (some .int) ws ({ frames := 1, cells := 0, slots := 0, locals := 13 } : Room) #[(.ref x1)] h0 TrueV (PureQ (some (.int (0 : Int32))) h0) := by
  refine Ctr.intro (plainFor_of_name pn_java_lang_String) (Ls := #[.val (.ref x1)]) (fun m => by first | (simp [entryFrame, mkF, argsToLocals, Value.category]; done) | rfl) ?_
  intro p e s m below meth c T0 hx hby hml hown hnm hret hlk hZ hV hsh e0 X0
  have N0 := Fr.nil n0
  show Done _ p e below s _ _ (T0.setTop (mkF m 0 #[oR x1] []))
  refine Done.step (fun _ => XS.aloadN X0.here hx rfl (hb hby d13_0) rfl rfl) ?_
  show Done _ p e below s _ _ (T0.setTop (mkF m 1 #[oR x1] [(.ref x1)]))
  obtain ⟨T1, X1, e1, st1⟩ := getF X0 hx hZ hown (host := "") (Or.inl (wAt hw 40 rfl)) Via.refl e0 V1 (g := (mkF m 1 #[oR x1] [(.ref x1)])) rfl rfl (hb hby d13_1)
  refine Done.step st1 ?_
  show Done _ p e below s _ _ (T1.setTop (mkF m 4 #[oR x1] [(.ref t1)]))
  obtain ⟨cl2, Ar2, q2, S2, Nn2, H2, G2⟩ := id K1
  refine Done.step (X1.arraylength hx (by first | exact Ar2.1 | (rw [e1]; exact Ar2.1)) (State.isArrayOf_alike hZ.alike Ar2.2.1) (g := (mkF m 4 #[oR x1] [(.ref t1)])) rfl rfl (hb hby d13_4)) ?_
  rw [len_of S2 Nn2]
  show Done _ p e below s _ _ (T1.setTop (mkF m 5 #[oR x1] [(.int (0 : Int32))]))
  refine Done.step (fun _ => XS.aloadN X1.here hx rfl (hb hby d13_5) rfl rfl) ?_
  show Done _ p e below s _ _ (T1.setTop (mkF m 6 #[oR x1] [(.ref x1), (.int (0 : Int32))]))
  refine Done.callVP X1 hx hZ (C := "java/lang/String") hown (wAt hw 65 rfl) (wAt hw 66 rfl) (notFace_of_selects (args := #[]) (mvT hZ (wAt hw 68 rfl))) (wAt hw 68 rfl) (wAt hw 67 rfl) (wAt hw 11 rfl) (wAt hw 69 rfl) (by decide) (rmCo l Z a0 hw [] x1 z h0 n0 Z0 O0 SC hz C1) e1 E1 (g := (mkF m 6 #[oR x1] [(.ref x1), (.int (0 : Int32))])) rfl (by rw [hml]; rfl) [] [(.int (0 : Int32))] 1 (lenOf pd_2 rfl) rfl rfl (by show 2 * 0 + _ ≤ _; exact Nat.le_of_eq rfl) (hb hby d13_6) (by decide) (by decide) (by decide) (by decide) rfl rfl ?_
  intro T3 X3 e3
  show Done _ p e below s _ _ (T3.setTop (mkF m 9 #[oR x1] [(.int (0 : Int32)), (.int (0 : Int32))]))
  refine Done.step (fun _ => XT.ishr X3.here hx rfl (hb hby d13_9) rfl) ?_
  show Done _ p e below s _ _ (T3.setTop (mkF m 10 #[oR x1] [(.int (0 : Int32))]))
  exact Done.retI (leavesF X3 hlk (by decide) (by decide)) X3 hx hret (hb hby d13_10) ⟨rfl, e3, rfl⟩
theorem d12_0 : decode prog_23_method_9_code 0 = .ok (.iconst 0, 1) := by decide +kernel
theorem d12_1 : decode prog_23_method_9_code 1 = .ok (.istore_n 3, 1) := by decide +kernel
theorem d12_2 : decode prog_23_method_9_code 2 = .ok (.iconst 0, 1) := by decide +kernel
theorem d12_3 : decode prog_23_method_9_code 3 = .ok (.istore 4, 2) := by decide +kernel
theorem d12_5 : decode prog_23_method_9_code 5 = .ok (.iload 4, 2) := by decide +kernel
theorem d12_7 : decode prog_23_method_9_code 7 = .ok (.aload_n 0, 1) := by decide +kernel
theorem d12_8 : decode prog_23_method_9_code 8 = .ok (.invokevirtual 13, 3) := by decide +kernel
theorem pd_3 : parseMethodDescriptor "()I" = some ⟨[], some .int⟩ := by decide +kernel
theorem d12_11 : decode prog_23_method_9_code 11 = .ok (.if_icmp .ge 73, 3) := by decide +kernel
theorem d12_84 : decode prog_23_method_9_code 84 = .ok (.iload_n 3, 1) := by decide +kernel
theorem d12_85 : decode prog_23_method_9_code 85 = .ok (.iload_n 1, 1) := by decide +kernel
theorem d12_86 : decode prog_23_method_9_code 86 = .ok (.if_icmp .gt 7, 3) := by decide +kernel
theorem d12_89 : decode prog_23_method_9_code 89 = .ok (.iconst 1, 1) := by decide +kernel
theorem d12_90 : decode prog_23_method_9_code 90 = .ok (.goto 4, 3) := by decide +kernel
theorem d12_94 : decode prog_23_method_9_code 94 = .ok (.ireturn, 1) := by decide +kernel
set_option maxRecDepth 65536 in
set_option maxHeartbeats 40000000 in
theorem rmU0 (l : Launch) (Z : State) (a0 : Array Value) (hw : ∀ d ∈ tables_1, d.before a0 Z = true) (ws : List Jvm.Cond) (x1 t1 : Addr) (kb1 : ClassId) (z : Int32) (fm : Value) (h0 : Heap) (n0 : Nat) (Z0 : n0 ≤ h0.size) (O0 : Old Z n0 h0) (SC : Sta Z Z.heap "java/lang/String" "COMPACT_STRINGS" "Z" (.int z)) (hz : ¬ z = 0) (SF : Sta Z Z.heap "jdk/internal/util/Preconditions" "SIOOBE_FORMATTER" "Ljava/util/function/BiFunction;" fm) (rF : fm.isRef = true) (E1 : Exa Z h0 x1 "java/lang/String") (V1 : Fld Z h0 x1 "java/lang/String" "value" "[B" (.ref t1)) (C1 : Fld Z h0 x1 "java/lang/String" "coder" "B" (.int (0 : Int32))) (K1 : Arv Z h0 t1 kb1 .byte (0 : Int32) [] (.int 0)) :
    Ctr FrameEnd l Z (⟨"com/example/minho/minho/core/Limits", "isUtf8Within", "(Ljava/lang/String;IZ)Z"⟩ : MethodName) prog_23_method_9_code 6 (some .boolean) ws ({ frames := 3, cells := 0, slots := 0, locals := 46 } : Room) #[(.ref x1), (.int (1048576 : Int32)), (.int (1 : Int32))] h0 TrueV (PureQ (some (.int (1 : Int32))) h0) := by
  refine Ctr.intro (plainFor_of_name pn_com_example_minho_minho_core_Limits) (Ls := #[.val (.ref x1), .val (.int (1048576 : Int32)), .val (.int (1 : Int32)), .unset, .unset, .unset]) (fun m => by first | (simp [entryFrame, mkF, argsToLocals, Value.category]; done) | rfl) ?_
  intro p e s m below meth c T0 hx hby hml hown hnm hret hlk hZ hV hsh e0 X0
  have N0 := Fr.nil n0
  show Done _ p e below s _ _ (T0.setTop (mkF m 0 #[oR x1, oI (1048576 : Int32), oI (1 : Int32), .unset, .unset, .unset] []))
  refine Done.step (fun _ => XT.iconstV X0.here hx rfl (0 : Int32) (hb hby d12_0) (by decide)) ?_
  show Done _ p e below s _ _ (T0.setTop (mkF m 1 #[oR x1, oI (1048576 : Int32), oI (1 : Int32), .unset, .unset, .unset] [(.int (0 : Int32))]))
  refine Done.step (fun _ => XS.istoreN X0.here hx rfl (hb hby d12_1) rfl (l' := #[oR x1, oI (1048576 : Int32), oI (1 : Int32), oI (0 : Int32), .unset, .unset]) rfl) ?_
  show Done _ p e below s _ _ (T0.setTop (mkF m 2 #[oR x1, oI (1048576 : Int32), oI (1 : Int32), oI (0 : Int32), .unset, .unset] []))
  refine Done.step (fun _ => XT.iconstV X0.here hx rfl (0 : Int32) (hb hby d12_2) (by decide)) ?_
  show Done _ p e below s _ _ (T0.setTop (mkF m 3 #[oR x1, oI (1048576 : Int32), oI (1 : Int32), oI (0 : Int32), .unset, .unset] [(.int (0 : Int32))]))
  refine Done.step (fun _ => XS.istore X0.here hx rfl (hb hby d12_3) rfl (l' := #[oR x1, oI (1048576 : Int32), oI (1 : Int32), oI (0 : Int32), oI (0 : Int32), .unset]) rfl) ?_
  show Done _ p e below s _ _ (T0.setTop (mkF m 5 #[oR x1, oI (1048576 : Int32), oI (1 : Int32), oI (0 : Int32), oI (0 : Int32), .unset] []))
  refine Done.step (fun _ => XS.iload X0.here hx rfl (hb hby d12_5) rfl) ?_
  show Done _ p e below s _ _ (T0.setTop (mkF m 7 #[oR x1, oI (1048576 : Int32), oI (1 : Int32), oI (0 : Int32), oI (0 : Int32), .unset] [(.int (0 : Int32))]))
  refine Done.step (fun _ => XS.aloadN X0.here hx rfl (hb hby d12_7) rfl rfl) ?_
  show Done _ p e below s _ _ (T0.setTop (mkF m 8 #[oR x1, oI (1048576 : Int32), oI (1 : Int32), oI (0 : Int32), oI (0 : Int32), .unset] [(.ref x1), (.int (0 : Int32))]))
  refine Done.callVP X0 hx hZ (C := "java/lang/String") hown (wAt hw 60 rfl) (wAt hw 61 rfl) (notFace_of_selects (args := #[]) (mvT hZ (wAt hw 63 rfl))) (wAt hw 63 rfl) (wAt hw 62 rfl) (wAt hw 11 rfl) (wAt hw 64 rfl) (by decide) (rmL0 l Z a0 hw [] x1 t1 kb1 z h0 n0 Z0 O0 SC hz E1 V1 C1 K1) e0 E1 (g := (mkF m 8 #[oR x1, oI (1048576 : Int32), oI (1 : Int32), oI (0 : Int32), oI (0 : Int32), .unset] [(.ref x1), (.int (0 : Int32))])) rfl (by rw [hml]; rfl) [] [(.int (0 : Int32))] 1 (lenOf pd_3 rfl) rfl rfl (by show 2 * 0 + _ ≤ _; exact Nat.le_of_eq rfl) (hb hby d12_8) (by decide) (by decide) (by decide) (by decide) rfl rfl ?_
  intro T1 X1 e1
  show Done _ p e below s _ _ (T1.setTop (mkF m 11 #[oR x1, oI (1048576 : Int32), oI (1 : Int32), oI (0 : Int32), oI (0 : Int32), .unset] [(.int (0 : Int32)), (.int (0 : Int32))]))
  refine Done.step (fun _ => XS.icmpYes X1.here hx rfl (pc0 := 11) (pc' := 84) rfl (hb hby d12_11) rfl (XT.ii_ge_t (by decide)) (by decide) (by decide)) ?_
  show Done _ p e below s _ _ (T1.setTop (mkF m 84 #[oR x1, oI (1048576 : Int32), oI (1 : Int32), oI (0 : Int32), oI (0 : Int32), .unset] []))
  refine Done.step (fun _ => XS.iloadN X1.here hx rfl (hb hby d12_84) rfl) ?_
  show Done _ p e below s _ _ (T1.setTop (mkF m 85 #[oR x1, oI (1048576 : Int32), oI (1 : Int32), oI (0 : Int32), oI (0 : Int32), .unset] [(.int (0 : Int32))]))
  refine Done.step (fun _ => XS.iloadN X1.here hx rfl (hb hby d12_85) rfl) ?_
  show Done _ p e below s _ _ (T1.setTop (mkF m 86 #[oR x1, oI (1048576 : Int32), oI (1 : Int32), oI (0 : Int32), oI (0 : Int32), .unset] [(.int (1048576 : Int32)), (.int (0 : Int32))]))
  refine Done.step (fun _ => XS.icmpNo X1.here hx rfl (hb hby d12_86) rfl (XT.ii_gt_f (by decide))) ?_
  show Done _ p e below s _ _ (T1.setTop (mkF m 89 #[oR x1, oI (1048576 : Int32), oI (1 : Int32), oI (0 : Int32), oI (0 : Int32), .unset] []))
  refine Done.step (fun _ => XT.iconstV X1.here hx rfl (1 : Int32) (hb hby d12_89) (by decide)) ?_
  show Done _ p e below s _ _ (T1.setTop (mkF m 90 #[oR x1, oI (1048576 : Int32), oI (1 : Int32), oI (0 : Int32), oI (0 : Int32), .unset] [(.int (1 : Int32))]))
  refine Done.step (fun _ => XS.goto X1.here hx rfl (pc0 := 90) (pc' := 94) rfl (hb hby d12_90) (by decide) (by decide)) ?_
  show Done _ p e below s _ _ (T1.setTop (mkF m 94 #[oR x1, oI (1048576 : Int32), oI (1 : Int32), oI (0 : Int32), oI (0 : Int32), .unset] [(.int (1 : Int32))]))
  exact Done.retN (leavesF X1 hlk (by decide) (by decide)) X1 hx (t := .boolean) hret (by simp) (hb hby d12_94) ⟨rfl, e1, rfl⟩
theorem d11_0 : decode prog_23_method_5_code 0 = .ok (.aload_n 0, 1) := by decide +kernel
theorem d11_1 : decode prog_23_method_5_code 1 = .ok (.ifnull 13, 3) := by decide +kernel
theorem d11_4 : decode prog_23_method_5_code 4 = .ok (.aload_n 0, 1) := by decide +kernel
theorem d11_5 : decode prog_23_method_5_code 5 = .ok (.ldc 39, 2) := by decide +kernel
theorem d11_7 : decode prog_23_method_5_code 7 = .ok (.iconst 1, 1) := by decide +kernel
theorem d11_8 : decode prog_23_method_5_code 8 = .ok (.invokestatic 32, 3) := by decide +kernel
theorem pd_4 : parseMethodDescriptor "(Ljava/lang/String;IZ)Z" = some ⟨[(.object "java/lang/String"), .int, .boolean], some .boolean⟩ := by decide +kernel
theorem d11_11 : decode prog_23_method_5_code 11 = .ok (.ifCond .ne 13, 3) := by decide +kernel
theorem d11_24 : decode prog_23_method_5_code 24 = .ok (.aload_n 0, 1) := by decide +kernel
theorem d11_25 : decode prog_23_method_5_code 25 = .ok (.areturn, 1) := by decide +kernel
set_option maxRecDepth 65536 in
set_option maxHeartbeats 40000000 in
theorem rmR0 (l : Launch) (Z : State) (a0 : Array Value) (hw : ∀ d ∈ tables_1, d.before a0 Z = true) (ws : List Jvm.Cond) (x1 t1 : Addr) (kb1 : ClassId) (z : Int32) (fm : Value) (h0 : Heap) (n0 : Nat) (Z0 : n0 ≤ h0.size) (O0 : Old Z n0 h0) (SC : Sta Z Z.heap "java/lang/String" "COMPACT_STRINGS" "Z" (.int z)) (hz : ¬ z = 0) (SF : Sta Z Z.heap "jdk/internal/util/Preconditions" "SIOOBE_FORMATTER" "Ljava/util/function/BiFunction;" fm) (rF : fm.isRef = true) (E1 : Exa Z h0 x1 "java/lang/String") (V1 : Fld Z h0 x1 "java/lang/String" "value" "[B" (.ref t1)) (C1 : Fld Z h0 x1 "java/lang/String" "coder" "B" (.int (0 : Int32))) (K1 : Arv Z h0 t1 kb1 .byte (0 : Int32) [] (.int 0)) :
    Ctr FrameEnd l Z (⟨"com/example/minho/minho/core/Limits", "requireValue", "(Ljava/lang/String;)Ljava/lang/String;"⟩ : MethodName) prog_23_method_5_code 1 (some (.object "java/lang/String")) ws ({ frames := 4, cells := 0, slots := 0, locals := 64 } : Room) #[(.ref x1)] h0 TrueV (PureQ (some (.ref x1)) h0) := by
  refine Ctr.intro (plainFor_of_name pn_com_example_minho_minho_core_Limits) (Ls := #[.val (.ref x1)]) (fun m => by first | (simp [entryFrame, mkF, argsToLocals, Value.category]; done) | rfl) ?_
  intro p e s m below meth c T0 hx hby hml hown hnm hret hlk hZ hV hsh e0 X0
  have N0 := Fr.nil n0
  show Done _ p e below s _ _ (T0.setTop (mkF m 0 #[oR x1] []))
  refine Done.step (fun _ => XS.aloadN X0.here hx rfl (hb hby d11_0) rfl rfl) ?_
  show Done _ p e below s _ _ (T0.setTop (mkF m 1 #[oR x1] [(.ref x1)]))
  refine Done.step (fun _ => XS.ifnullNo X0.here hx rfl (hb hby d11_1) rfl) ?_
  show Done _ p e below s _ _ (T0.setTop (mkF m 4 #[oR x1] []))
  refine Done.step (fun _ => XS.aloadN X0.here hx rfl (hb hby d11_4) rfl rfl) ?_
  show Done _ p e below s _ _ (T0.setTop (mkF m 5 #[oR x1] [(.ref x1)]))
  refine Done.step (fun _ => Stand.ldcI X0 hx hown (mvT hZ (wAt hw 56 rfl)) (g := (mkF m 5 #[oR x1] [(.ref x1)])) rfl (hb hby d11_5)) ?_
  show Done _ p e below s _ _ (T0.setTop (mkF m 7 #[oR x1] [(.int (1048576 : Int32)), (.ref x1)]))
  refine Done.step (fun _ => XT.iconstV X0.here hx rfl (1 : Int32) (hb hby d11_7) (by decide)) ?_
  show Done _ p e below s _ _ (T0.setTop (mkF m 8 #[oR x1] [(.int (1 : Int32)), (.int (1048576 : Int32)), (.ref x1)]))
  refine Done.callSP X0 hx hZ hown (wAt hw 57 rfl) (wAt hw 58 rfl) (wAt hw 54 rfl) (wAt hw 59 rfl) (by decide) (rmU0 l Z a0 hw [] x1 t1 kb1 z fm h0 n0 Z0 O0 SC hz SF rF E1 V1 C1 K1) e0 (g := (mkF m 8 #[oR x1] [(.int (1 : Int32)), (.int (1048576 : Int32)), (.ref x1)])) rfl (by rw [hml]; rfl) [(.ref x1), (.int (1048576 : Int32)), (.int (1 : Int32))] [] 0 (lenOf pd_4 rfl) rfl rfl (by show 2 * 0 + _ ≤ _; exact Nat.le_of_eq rfl) (hb hby d11_8) (by decide) (by decide) (by decide) (by decide) rfl rfl ?_
  intro T1 X1 e1
  show Done _ p e below s _ _ (T1.setTop (mkF m 11 #[oR x1] [(.int (1 : Int32))]))
  refine Done.step (fun _ => XS.ifYes X1.here hx rfl (pc0 := 11) (pc' := 24) rfl (hb hby d11_11) rfl (XT.i0_ne_t (by decide)) (by decide) (by decide)) ?_
  show Done _ p e below s _ _ (T1.setTop (mkF m 24 #[oR x1] []))
  refine Done.step (fun _ => XS.aloadN X1.here hx rfl (hb hby d11_24) rfl rfl) ?_
  show Done _ p e below s _ _ (T1.setTop (mkF m 25 #[oR x1] [(.ref x1)]))
  exact Done.retA (leavesF X1 hlk (by decide) (by decide)) X1 hx hret rfl rfl (hb hby d11_25) ⟨rfl, e1, rfl⟩
set_option maxRecDepth 65536 in
set_option maxHeartbeats 40000000 in
theorem rmL1 (l : Launch) (Z : State) (a0 : Array Value) (hw : ∀ d ∈ tables_1, d.before a0 Z = true) (ws : List Jvm.Cond) (x1 t1 : Addr) (kb1 : ClassId) (y0 : Int32) (z : Int32) (h0 : Heap) (n0 : Nat) (Z0 : n0 ≤ h0.size) (O0 : Old Z n0 h0) (SC : Sta Z Z.heap "java/lang/String" "COMPACT_STRINGS" "Z" (.int z)) (hz : ¬ z = 0) (E1 : Exa Z h0 x1 "java/lang/String") (V1 : Fld Z h0 x1 "java/lang/String" "value" "[B" (.ref t1)) (C1 : Fld Z h0 x1 "java/lang/String" "coder" "B" (.int (0 : Int32))) (K1 : Arv Z h0 t1 kb1 .byte (1 : Int32) [(.int y0)] (.int 0)) :
    Ctr FrameEnd l Z (⟨"java/lang/String", "length", "()I"⟩ : MethodName) jdk_42_method_54_code 1 (some .int) ws ({ frames := 1, cells := 0, slots := 0, locals := 13 } : Room) #[(.ref x1)] h0 TrueV (PureQ (some (.int (1 : Int32))) h0) := by
  refine Ctr.intro (plainFor_of_name pn_java_lang_String) (Ls := #[.val (.ref x1)]) (fun m => by first | (simp [entryFrame, mkF, argsToLocals, Value.category]; done) | rfl) ?_
  intro p e s m below meth c T0 hx hby hml hown hnm hret hlk hZ hV hsh e0 X0
  have N0 := Fr.nil n0
  show Done _ p e below s _ _ (T0.setTop (mkF m 0 #[oR x1] []))
  refine Done.step (fun _ => XS.aloadN X0.here hx rfl (hb hby d13_0) rfl rfl) ?_
  show Done _ p e below s _ _ (T0.setTop (mkF m 1 #[oR x1] [(.ref x1)]))
  obtain ⟨T1, X1, e1, st1⟩ := getF X0 hx hZ hown (host := "") (Or.inl (wAt hw 40 rfl)) Via.refl e0 V1 (g := (mkF m 1 #[oR x1] [(.ref x1)])) rfl rfl (hb hby d13_1)
  refine Done.step st1 ?_
  show Done _ p e below s _ _ (T1.setTop (mkF m 4 #[oR x1] [(.ref t1)]))
  obtain ⟨cl2, Ar2, q2, S2, Nn2, H2, G2⟩ := id K1
  refine Done.step (X1.arraylength hx (by first | exact Ar2.1 | (rw [e1]; exact Ar2.1)) (State.isArrayOf_alike hZ.alike Ar2.2.1) (g := (mkF m 4 #[oR x1] [(.ref t1)])) rfl rfl (hb hby d13_4)) ?_
  rw [len_of S2 Nn2]
  show Done _ p e below s _ _ (T1.setTop (mkF m 5 #[oR x1] [(.int (1 : Int32))]))
  refine Done.step (fun _ => XS.aloadN X1.here hx rfl (hb hby d13_5) rfl rfl) ?_
  show Done _ p e below s _ _ (T1.setTop (mkF m 6 #[oR x1] [(.ref x1), (.int (1 : Int32))]))
  refine Done.callVP X1 hx hZ (C := "java/lang/String") hown (wAt hw 65 rfl) (wAt hw 66 rfl) (notFace_of_selects (args := #[]) (mvT hZ (wAt hw 68 rfl))) (wAt hw 68 rfl) (wAt hw 67 rfl) (wAt hw 11 rfl) (wAt hw 69 rfl) (by decide) (rmCo l Z a0 hw [] x1 z h0 n0 Z0 O0 SC hz C1) e1 E1 (g := (mkF m 6 #[oR x1] [(.ref x1), (.int (1 : Int32))])) rfl (by rw [hml]; rfl) [] [(.int (1 : Int32))] 1 (lenOf pd_2 rfl) rfl rfl (by show 2 * 0 + _ ≤ _; exact Nat.le_of_eq rfl) (hb hby d13_6) (by decide) (by decide) (by decide) (by decide) rfl rfl ?_
  intro T3 X3 e3
  show Done _ p e below s _ _ (T3.setTop (mkF m 9 #[oR x1] [(.int (0 : Int32)), (.int (1 : Int32))]))
  refine Done.step (fun _ => XT.ishr X3.here hx rfl (hb hby d13_9) rfl) ?_
  show Done _ p e below s _ _ (T3.setTop (mkF m 10 #[oR x1] [(.int (1 : Int32))]))
  exact Done.retI (leavesF X3 hlk (by decide) (by decide)) X3 hx hret (hb hby d13_10) ⟨rfl, e3, rfl⟩
theorem d15_0 : decode jdk_42_method_57_code 0 = .ok (.aload_n 0, 1) := by decide +kernel
theorem d15_1 : decode jdk_42_method_57_code 1 = .ok (.invokevirtual 492, 3) := by decide +kernel
theorem pd_5 : parseMethodDescriptor "()Z" = some ⟨[], some .boolean⟩ := by decide +kernel
theorem d15_4 : decode jdk_42_method_57_code 4 = .ok (.ifCond .eq 23, 3) := by decide +kernel
theorem d15_7 : decode jdk_42_method_57_code 7 = .ok (.iload_n 1, 1) := by decide +kernel
theorem d15_8 : decode jdk_42_method_57_code 8 = .ok (.aload_n 0, 1) := by decide +kernel
theorem d15_9 : decode jdk_42_method_57_code 9 = .ok (.getfield 9, 3) := by decide +kernel
theorem d15_12 : decode jdk_42_method_57_code 12 = .ok (.arraylength, 1) := by decide +kernel
theorem d15_13 : decode jdk_42_method_57_code 13 = .ok (.invokestatic 499, 3) := by decide +kernel
theorem pd_6 : parseMethodDescriptor "(II)V" = some ⟨[.int, .int], none⟩ := by decide +kernel
theorem d15_16 : decode jdk_42_method_57_code 16 = .ok (.aload_n 0, 1) := by decide +kernel
theorem d15_17 : decode jdk_42_method_57_code 17 = .ok (.getfield 9, 3) := by decide +kernel
theorem d15_20 : decode jdk_42_method_57_code 20 = .ok (.iload_n 1, 1) := by decide +kernel
theorem d15_21 : decode jdk_42_method_57_code 21 = .ok (.baload, 1) := by decide +kernel
theorem d15_22 : decode jdk_42_method_57_code 22 = .ok (.sipush 255, 3) := by decide +kernel
theorem d15_25 : decode jdk_42_method_57_code 25 = .ok (.iand, 1) := by decide +kernel
theorem d15_26 : decode jdk_42_method_57_code 26 = .ok (.ireturn, 1) := by decide +kernel
set_option maxRecDepth 65536 in
set_option maxHeartbeats 40000000 in
theorem rmC10 (l : Launch) (Z : State) (a0 : Array Value) (hw : ∀ d ∈ tables_1, d.before a0 Z = true) (ws : List Jvm.Cond) (x1 t1 : Addr) (kb1 : ClassId) (y0 : Int32) (z : Int32) (fm : Value) (h0 : Heap) (n0 : Nat) (Z0 : n0 ≤ h0.size) (O0 : Old Z n0 h0) (SC : Sta Z Z.heap "java/lang/String" "COMPACT_STRINGS" "Z" (.int z)) (hz : ¬ z = 0) (SF : Sta Z Z.heap "jdk/internal/util/Preconditions" "SIOOBE_FORMATTER" "Ljava/util/function/BiFunction;" fm) (rF : fm.isRef = true) (E1 : Exa Z h0 x1 "java/lang/String") (V1 : Fld Z h0 x1 "java/lang/String" "value" "[B" (.ref t1)) (C1 : Fld Z h0 x1 "java/lang/String" "coder" "B" (.int (0 : Int32))) (K1 : Arv Z h0 t1 kb1 .byte (1 : Int32) [(.int y0)] (.int 0)) :
    Ctr FrameEnd l Z (⟨"java/lang/String", "codePointAt", "(I)I"⟩ : MethodName) jdk_42_method_57_code 3 (some .int) ws ({ frames := 2, cells := 0, slots := 0, locals := 30 } : Room) #[(.ref x1), (.int (0 : Int32))] h0 TrueV (PureQ (some (.int (y0 &&& (255 : Int32)))) h0) := by
  refine Ctr.intro (plainFor_of_name pn_java_lang_String) (Ls := #[.val (.ref x1), .val (.int (0 : Int32)), .unset]) (fun m => by first | (simp [entryFrame, mkF, argsToLocals, Value.category]; done) | rfl) ?_
  intro p e s m below meth c T0 hx hby hml hown hnm hret hlk hZ hV hsh e0 X0
  have N0 := Fr.nil n0
  show Done _ p e below s _ _ (T0.setTop (mkF m 0 #[oR x1, oI (0 : Int32), .unset] []))
  refine Done.step (fun _ => XS.aloadN X0.here hx rfl (hb hby d15_0) rfl rfl) ?_
  show Done _ p e below s _ _ (T0.setTop (mkF m 1 #[oR x1, oI (0 : Int32), .unset] [(.ref x1)]))
  refine Done.callVP X0 hx hZ (C := "java/lang/String") hown (wAt hw 75 rfl) (wAt hw 76 rfl) (notFace_of_selects (args := #[]) (mvT hZ (wAt hw 78 rfl))) (wAt hw 78 rfl) (wAt hw 77 rfl) (wAt hw 11 rfl) (wAt hw 79 rfl) (by decide) (rmIL l Z a0 hw [] x1 z h0 n0 Z0 O0 SC hz C1) e0 E1 (g := (mkF m 1 #[oR x1, oI (0 : Int32), .unset] [(.ref x1)])) rfl (by rw [hml]; rfl) [] [] 0 (lenOf pd_5 rfl) rfl rfl (by show 2 * 0 + _ ≤ _; exact Nat.le_of_eq rfl) (hb hby d15_1) (by decide) (by decide) (by decide) (by decide) rfl rfl ?_
  intro T1 X1 e1
  show Done _ p e below s _ _ (T1.setTop (mkF m 4 #[oR x1, oI (0 : Int32), .unset] [(.int (1 : Int32))]))
  refine Done.step (fun _ => XS.ifNo X1.here hx rfl (hb hby d15_4) rfl (XT.i0_eq_f (by decide))) ?_
  show Done _ p e below s _ _ (T1.setTop (mkF m 7 #[oR x1, oI (0 : Int32), .unset] []))
  refine Done.step (fun _ => XS.iloadN X1.here hx rfl (hb hby d15_7) rfl) ?_
  show Done _ p e below s _ _ (T1.setTop (mkF m 8 #[oR x1, oI (0 : Int32), .unset] [(.int (0 : Int32))]))
  refine Done.step (fun _ => XS.aloadN X1.here hx rfl (hb hby d15_8) rfl rfl) ?_
  show Done _ p e below s _ _ (T1.setTop (mkF m 9 #[oR x1, oI (0 : Int32), .unset] [(.ref x1), (.int (0 : Int32))]))
  obtain ⟨T2, X2, e2, st2⟩ := getF X1 hx hZ hown (host := "") (Or.inl (wAt hw 40 rfl)) Via.refl e1 V1 (g := (mkF m 9 #[oR x1, oI (0 : Int32), .unset] [(.ref x1), (.int (0 : Int32))])) rfl rfl (hb hby d15_9)
  refine Done.step st2 ?_
  show Done _ p e below s _ _ (T2.setTop (mkF m 12 #[oR x1, oI (0 : Int32), .unset] [(.ref t1), (.int (0 : Int32))]))
  obtain ⟨cl3, Ar3, q3, S3, Nn3, H3, G3⟩ := id K1
  refine Done.step (X2.arraylength hx (by first | exact Ar3.1 | (rw [e2]; exact Ar3.1)) (State.isArrayOf_alike hZ.alike Ar3.2.1) (g := (mkF m 12 #[oR x1, oI (0 : Int32), .unset] [(.ref t1), (.int (0 : Int32))])) rfl rfl (hb hby d15_12)) ?_
  rw [len_of S3 Nn3]
  show Done _ p e below s _ _ (T2.setTop (mkF m 13 #[oR x1, oI (0 : Int32), .unset] [(.int (1 : Int32)), (.int (0 : Int32))]))
  refine Done.callSP X2 hx hZ hown (wAt hw 80 rfl) (wAt hw 81 rfl) (wAt hw 11 rfl) (wAt hw 82 rfl) (by decide) (rmCI l Z a0 hw [] (0 : Int32) (1 : Int32) z fm h0 n0 Z0 O0 SC hz SF rF (by decide) (by decide)) e2 (g := (mkF m 13 #[oR x1, oI (0 : Int32), .unset] [(.int (1 : Int32)), (.int (0 : Int32))])) rfl (by rw [hml]; rfl) [(.int (0 : Int32)), (.int (1 : Int32))] [] 0 (lenOf pd_6 rfl) rfl rfl (by show 2 * 0 + _ ≤ _; exact Nat.le_of_eq rfl) (hb hby d15_13) (by decide) (by decide) (by decide) (by decide) rfl rfl ?_
  intro T4 X4 e4
  show Done _ p e below s _ _ (T4.setTop (mkF m 16 #[oR x1, oI (0 : Int32), .unset] []))
  refine Done.step (fun _ => XS.aloadN X4.here hx rfl (hb hby d15_16) rfl rfl) ?_
  show Done _ p e below s _ _ (T4.setTop (mkF m 17 #[oR x1, oI (0 : Int32), .unset] [(.ref x1)]))
  obtain ⟨T5, X5, e5, st5⟩ := getF X4 hx hZ hown (host := "") (Or.inl (wAt hw 40 rfl)) Via.refl e4 V1 (g := (mkF m 17 #[oR x1, oI (0 : Int32), .unset] [(.ref x1)])) rfl rfl (hb hby d15_17)
  refine Done.step st5 ?_
  show Done _ p e below s _ _ (T5.setTop (mkF m 20 #[oR x1, oI (0 : Int32), .unset] [(.ref t1)]))
  refine Done.step (fun _ => XS.iloadN X5.here hx rfl (hb hby d15_20) rfl) ?_
  show Done _ p e below s _ _ (T5.setTop (mkF m 21 #[oR x1, oI (0 : Int32), .unset] [(.int (0 : Int32)), (.ref t1)]))
  obtain ⟨cl6, Ar6, q6, S6, Nn6, H6, G6⟩ := id K1
  have hin6 : ¬ ((0 : Int32) < 0 ∨ cl6.slots.size ≤ ((0 : Int32)).toNatClampNeg) := inb_of S6 ⟨by decide, by decide⟩
  have hat6 := Has.at H6 hin6 (v := (.int y0)) rfl
  refine Done.step (X5.baloadBytes hx (j := (0 : Int32)) (v := (.int y0)) (by first | exact Ar6.1 | (rw [e5]; exact Ar6.1)) (State.isArrayOf_alike hZ.alike Ar6.2.1) Ar6.2.2 hin6 hat6 (g := (mkF m 21 #[oR x1, oI (0 : Int32), .unset] [(.int (0 : Int32)), (.ref t1)])) rfl rfl (hb hby d15_21)) ?_
  show Done _ p e below s _ _ (T5.setTop (mkF m 22 #[oR x1, oI (0 : Int32), .unset] [(.int y0)]))
  refine Done.step (fun _ => XT.sipushV X5.here hx rfl (255 : Int32) (hb hby d15_22) (by decide)) ?_
  show Done _ p e below s _ _ (T5.setTop (mkF m 25 #[oR x1, oI (0 : Int32), .unset] [(.int (255 : Int32)), (.int y0)]))
  refine Done.step (fun _ => XS.iand X5.here hx rfl (hb hby d15_25) rfl) ?_
  show Done _ p e below s _ _ (T5.setTop (mkF m 26 #[oR x1, oI (0 : Int32), .unset] [(.int (y0 &&& (255 : Int32)))]))
  exact Done.retI (leavesF X5 hlk (by decide) (by decide)) X5 hx hret (hb hby d15_26) ⟨rfl, e5, rfl⟩
theorem d12_14 : decode prog_23_method_9_code 14 = .ok (.iload_n 3, 1) := by decide +kernel
theorem d12_15 : decode prog_23_method_9_code 15 = .ok (.iload_n 1, 1) := by decide +kernel
theorem d12_16 : decode prog_23_method_9_code 16 = .ok (.if_icmp .gt 68, 3) := by decide +kernel
theorem d12_19 : decode prog_23_method_9_code 19 = .ok (.aload_n 0, 1) := by decide +kernel
theorem d12_20 : decode prog_23_method_9_code 20 = .ok (.iload 4, 2) := by decide +kernel
theorem d12_22 : decode prog_23_method_9_code 22 = .ok (.invokevirtual 54, 3) := by decide +kernel
theorem pd_7 : parseMethodDescriptor "(I)I" = some ⟨[.int], some .int⟩ := by decide +kernel
theorem d12_25 : decode prog_23_method_9_code 25 = .ok (.istore 5, 2) := by decide +kernel
theorem d12_27 : decode prog_23_method_9_code 27 = .ok (.iload 5, 2) := by decide +kernel
theorem d12_29 : decode prog_23_method_9_code 29 = .ok (.ldc 60, 2) := by decide +kernel
theorem d12_31 : decode prog_23_method_9_code 31 = .ok (.if_icmp .lt 12, 3) := by decide +kernel
theorem d12_43 : decode prog_23_method_9_code 43 = .ok (.iload_n 2, 1) := by decide +kernel
theorem d12_44 : decode prog_23_method_9_code 44 = .ok (.ifCond .ne 19, 3) := by decide +kernel
theorem d12_63 : decode prog_23_method_9_code 63 = .ok (.iload_n 3, 1) := by decide +kernel
theorem d12_64 : decode prog_23_method_9_code 64 = .ok (.iload 5, 2) := by decide +kernel
theorem d12_66 : decode prog_23_method_9_code 66 = .ok (.invokestatic 62, 3) := by decide +kernel
theorem d12_69 : decode prog_23_method_9_code 69 = .ok (.iadd, 1) := by decide +kernel
theorem d12_70 : decode prog_23_method_9_code 70 = .ok (.istore_n 3, 1) := by decide +kernel
theorem d12_71 : decode prog_23_method_9_code 71 = .ok (.iload 4, 2) := by decide +kernel
theorem d12_73 : decode prog_23_method_9_code 73 = .ok (.iload 5, 2) := by decide +kernel
theorem d12_75 : decode prog_23_method_9_code 75 = .ok (.invokestatic 65, 3) := by decide +kernel
theorem d12_78 : decode prog_23_method_9_code 78 = .ok (.iadd, 1) := by decide +kernel
theorem d12_79 : decode prog_23_method_9_code 79 = .ok (.istore 4, 2) := by decide +kernel
theorem d12_81 : decode prog_23_method_9_code 81 = .ok (.goto (-76), 3) := by decide +kernel
set_option maxRecDepth 65536 in
set_option maxHeartbeats 40000000 in
theorem rmU1 (l : Launch) (Z : State) (a0 : Array Value) (hw : ∀ d ∈ tables_1, d.before a0 Z = true) (ws : List Jvm.Cond) (x1 t1 : Addr) (kb1 : ClassId) (y0 : Int32) (z : Int32) (fm : Value) (h0 : Heap) (n0 : Nat) (Z0 : n0 ≤ h0.size) (O0 : Old Z n0 h0) (SC : Sta Z Z.heap "java/lang/String" "COMPACT_STRINGS" "Z" (.int z)) (hz : ¬ z = 0) (SF : Sta Z Z.heap "jdk/internal/util/Preconditions" "SIOOBE_FORMATTER" "Ljava/util/function/BiFunction;" fm) (rF : fm.isRef = true) (E1 : Exa Z h0 x1 "java/lang/String") (V1 : Fld Z h0 x1 "java/lang/String" "value" "[B" (.ref t1)) (C1 : Fld Z h0 x1 "java/lang/String" "coder" "B" (.int (0 : Int32))) (K1 : Arv Z h0 t1 kb1 .byte (1 : Int32) [(.int y0)] (.int 0)) :
    Ctr FrameEnd l Z (⟨"com/example/minho/minho/core/Limits", "isUtf8Within", "(Ljava/lang/String;IZ)Z"⟩ : MethodName) prog_23_method_9_code 6 (some .boolean) ws ({ frames := 3, cells := 0, slots := 0, locals := 46 } : Room) #[(.ref x1), (.int (1048576 : Int32)), (.int (1 : Int32))] h0 TrueV (PureQ (some (.int (1 : Int32))) h0) := by
  refine Ctr.intro (plainFor_of_name pn_com_example_minho_minho_core_Limits) (Ls := #[.val (.ref x1), .val (.int (1048576 : Int32)), .val (.int (1 : Int32)), .unset, .unset, .unset]) (fun m => by first | (simp [entryFrame, mkF, argsToLocals, Value.category]; done) | rfl) ?_
  intro p e s m below meth c T0 hx hby hml hown hnm hret hlk hZ hV hsh e0 X0
  have N0 := Fr.nil n0
  show Done _ p e below s _ _ (T0.setTop (mkF m 0 #[oR x1, oI (1048576 : Int32), oI (1 : Int32), .unset, .unset, .unset] []))
  refine Done.step (fun _ => XT.iconstV X0.here hx rfl (0 : Int32) (hb hby d12_0) (by decide)) ?_
  show Done _ p e below s _ _ (T0.setTop (mkF m 1 #[oR x1, oI (1048576 : Int32), oI (1 : Int32), .unset, .unset, .unset] [(.int (0 : Int32))]))
  refine Done.step (fun _ => XS.istoreN X0.here hx rfl (hb hby d12_1) rfl (l' := #[oR x1, oI (1048576 : Int32), oI (1 : Int32), oI (0 : Int32), .unset, .unset]) rfl) ?_
  show Done _ p e below s _ _ (T0.setTop (mkF m 2 #[oR x1, oI (1048576 : Int32), oI (1 : Int32), oI (0 : Int32), .unset, .unset] []))
  refine Done.step (fun _ => XT.iconstV X0.here hx rfl (0 : Int32) (hb hby d12_2) (by decide)) ?_
  show Done _ p e below s _ _ (T0.setTop (mkF m 3 #[oR x1, oI (1048576 : Int32), oI (1 : Int32), oI (0 : Int32), .unset, .unset] [(.int (0 : Int32))]))
  refine Done.step (fun _ => XS.istore X0.here hx rfl (hb hby d12_3) rfl (l' := #[oR x1, oI (1048576 : Int32), oI (1 : Int32), oI (0 : Int32), oI (0 : Int32), .unset]) rfl) ?_
  show Done _ p e below s _ _ (T0.setTop (mkF m 5 #[oR x1, oI (1048576 : Int32), oI (1 : Int32), oI (0 : Int32), oI (0 : Int32), .unset] []))
  refine Done.step (fun _ => XS.iload X0.here hx rfl (hb hby d12_5) rfl) ?_
  show Done _ p e below s _ _ (T0.setTop (mkF m 7 #[oR x1, oI (1048576 : Int32), oI (1 : Int32), oI (0 : Int32), oI (0 : Int32), .unset] [(.int (0 : Int32))]))
  refine Done.step (fun _ => XS.aloadN X0.here hx rfl (hb hby d12_7) rfl rfl) ?_
  show Done _ p e below s _ _ (T0.setTop (mkF m 8 #[oR x1, oI (1048576 : Int32), oI (1 : Int32), oI (0 : Int32), oI (0 : Int32), .unset] [(.ref x1), (.int (0 : Int32))]))
  refine Done.callVP X0 hx hZ (C := "java/lang/String") hown (wAt hw 60 rfl) (wAt hw 61 rfl) (notFace_of_selects (args := #[]) (mvT hZ (wAt hw 63 rfl))) (wAt hw 63 rfl) (wAt hw 62 rfl) (wAt hw 11 rfl) (wAt hw 64 rfl) (by decide) (rmL1 l Z a0 hw [] x1 t1 kb1 y0 z h0 n0 Z0 O0 SC hz E1 V1 C1 K1) e0 E1 (g := (mkF m 8 #[oR x1, oI (1048576 : Int32), oI (1 : Int32), oI (0 : Int32), oI (0 : Int32), .unset] [(.ref x1), (.int (0 : Int32))])) rfl (by rw [hml]; rfl) [] [(.int (0 : Int32))] 1 (lenOf pd_3 rfl) rfl rfl (by show 2 * 0 + _ ≤ _; exact Nat.le_of_eq rfl) (hb hby d12_8) (by decide) (by decide) (by decide) (by decide) rfl rfl ?_
  intro T1 X1 e1
  show Done _ p e below s _ _ (T1.setTop (mkF m 11 #[oR x1, oI (1048576 : Int32), oI (1 : Int32), oI (0 : Int32), oI (0 : Int32), .unset] [(.int (1 : Int32)), (.int (0 : Int32))]))
  refine Done.step (fun _ => XS.icmpNo X1.here hx rfl (hb hby d12_11) rfl (XT.ii_ge_f (by decide))) ?_
  show Done _ p e below s _ _ (T1.setTop (mkF m 14 #[oR x1, oI (1048576 : Int32), oI (1 : Int32), oI (0 : Int32), oI (0 : Int32), .unset] []))
  refine Done.step (fun _ => XS.iloadN X1.here hx rfl (hb hby d12_14) rfl) ?_
  show Done _ p e below s _ _ (T1.setTop (mkF m 15 #[oR x1, oI (1048576 : Int32), oI (1 : Int32), oI (0 : Int32), oI (0 : Int32), .unset] [(.int (0 : Int32))]))
  refine Done.step (fun _ => XS.iloadN X1.here hx rfl (hb hby d12_15) rfl) ?_
  show Done _ p e below s _ _ (T1.setTop (mkF m 16 #[oR x1, oI (1048576 : Int32), oI (1 : Int32), oI (0 : Int32), oI (0 : Int32), .unset] [(.int (1048576 : Int32)), (.int (0 : Int32))]))
  refine Done.step (fun _ => XS.icmpNo X1.here hx rfl (hb hby d12_16) rfl (XT.ii_gt_f (by decide))) ?_
  show Done _ p e below s _ _ (T1.setTop (mkF m 19 #[oR x1, oI (1048576 : Int32), oI (1 : Int32), oI (0 : Int32), oI (0 : Int32), .unset] []))
  refine Done.step (fun _ => XS.aloadN X1.here hx rfl (hb hby d12_19) rfl rfl) ?_
  show Done _ p e below s _ _ (T1.setTop (mkF m 20 #[oR x1, oI (1048576 : Int32), oI (1 : Int32), oI (0 : Int32), oI (0 : Int32), .unset] [(.ref x1)]))
  refine Done.step (fun _ => XS.iload X1.here hx rfl (hb hby d12_20) rfl) ?_
  show Done _ p e below s _ _ (T1.setTop (mkF m 22 #[oR x1, oI (1048576 : Int32), oI (1 : Int32), oI (0 : Int32), oI (0 : Int32), .unset] [(.int (0 : Int32)), (.ref x1)]))
  refine Done.callVP X1 hx hZ (C := "java/lang/String") hown (wAt hw 70 rfl) (wAt hw 71 rfl) (notFace_of_selects (args := #[]) (mvT hZ (wAt hw 73 rfl))) (wAt hw 73 rfl) (wAt hw 72 rfl) (wAt hw 11 rfl) (wAt hw 74 rfl) (by decide) (rmC10 l Z a0 hw [] x1 t1 kb1 y0 z fm h0 n0 Z0 O0 SC hz SF rF E1 V1 C1 K1) e1 E1 (g := (mkF m 22 #[oR x1, oI (1048576 : Int32), oI (1 : Int32), oI (0 : Int32), oI (0 : Int32), .unset] [(.int (0 : Int32)), (.ref x1)])) rfl (by rw [hml]; rfl) [(.int (0 : Int32))] [] 0 (lenOf pd_7 rfl) rfl rfl (by show 2 * 0 + _ ≤ _; exact Nat.le_of_eq rfl) (hb hby d12_22) (by decide) (by decide) (by decide) (by decide) rfl rfl ?_
  intro T2 X2 e2
  show Done _ p e below s _ _ (T2.setTop (mkF m 25 #[oR x1, oI (1048576 : Int32), oI (1 : Int32), oI (0 : Int32), oI (0 : Int32), .unset] [(.int (y0 &&& (255 : Int32)))]))
  refine Done.step (fun _ => XS.istore X2.here hx rfl (hb hby d12_25) rfl (l' := #[oR x1, oI (1048576 : Int32), oI (1 : Int32), oI (0 : Int32), oI (0 : Int32), oI (y0 &&& (255 : Int32))]) rfl) ?_
  show Done _ p e below s _ _ (T2.setTop (mkF m 27 #[oR x1, oI (1048576 : Int32), oI (1 : Int32), oI (0 : Int32), oI (0 : Int32), oI (y0 &&& (255 : Int32))] []))
  refine Done.step (fun _ => XS.iload X2.here hx rfl (hb hby d12_27) rfl) ?_
  show Done _ p e below s _ _ (T2.setTop (mkF m 29 #[oR x1, oI (1048576 : Int32), oI (1 : Int32), oI (0 : Int32), oI (0 : Int32), oI (y0 &&& (255 : Int32))] [(.int (y0 &&& (255 : Int32)))]))
  refine Done.step (fun _ => Stand.ldcI X2 hx hown (mvT hZ (wAt hw 88 rfl)) (g := (mkF m 29 #[oR x1, oI (1048576 : Int32), oI (1 : Int32), oI (0 : Int32), oI (0 : Int32), oI (y0 &&& (255 : Int32))] [(.int (y0 &&& (255 : Int32)))])) rfl (hb hby d12_29)) ?_
  show Done _ p e below s _ _ (T2.setTop (mkF m 31 #[oR x1, oI (1048576 : Int32), oI (1 : Int32), oI (0 : Int32), oI (0 : Int32), oI (y0 &&& (255 : Int32))] [(.int (55296 : Int32)), (.int (y0 &&& (255 : Int32)))]))
  refine Done.step (fun _ => XS.icmpYes X2.here hx rfl (pc0 := 31) (pc' := 43) rfl (hb hby d12_31) rfl (XT.ii_lt_t (own_cp _ _ (by decide))) (by decide) (by decide)) ?_
  show Done _ p e below s _ _ (T2.setTop (mkF m 43 #[oR x1, oI (1048576 : Int32), oI (1 : Int32), oI (0 : Int32), oI (0 : Int32), oI (y0 &&& (255 : Int32))] []))
  refine Done.step (fun _ => XS.iloadN X2.here hx rfl (hb hby d12_43) rfl) ?_
  show Done _ p e below s _ _ (T2.setTop (mkF m 44 #[oR x1, oI (1048576 : Int32), oI (1 : Int32), oI (0 : Int32), oI (0 : Int32), oI (y0 &&& (255 : Int32))] [(.int (1 : Int32))]))
  refine Done.step (fun _ => XS.ifYes X2.here hx rfl (pc0 := 44) (pc' := 63) rfl (hb hby d12_44) rfl (XT.i0_ne_t (by decide)) (by decide) (by decide)) ?_
  show Done _ p e below s _ _ (T2.setTop (mkF m 63 #[oR x1, oI (1048576 : Int32), oI (1 : Int32), oI (0 : Int32), oI (0 : Int32), oI (y0 &&& (255 : Int32))] []))
  refine Done.step (fun _ => XS.iloadN X2.here hx rfl (hb hby d12_63) rfl) ?_
  show Done _ p e below s _ _ (T2.setTop (mkF m 64 #[oR x1, oI (1048576 : Int32), oI (1 : Int32), oI (0 : Int32), oI (0 : Int32), oI (y0 &&& (255 : Int32))] [(.int (0 : Int32))]))
  refine Done.step (fun _ => XS.iload X2.here hx rfl (hb hby d12_64) rfl) ?_
  show Done _ p e below s _ _ (T2.setTop (mkF m 66 #[oR x1, oI (1048576 : Int32), oI (1 : Int32), oI (0 : Int32), oI (0 : Int32), oI (y0 &&& (255 : Int32))] [(.int (y0 &&& (255 : Int32))), (.int (0 : Int32))]))
  refine Done.callSP X2 hx hZ hown (wAt hw 89 rfl) (wAt hw 90 rfl) (wAt hw 54 rfl) (wAt hw 91 rfl) (by decide) (rmU8 l Z a0 hw [] (y0 &&& (255 : Int32)) h0 n0 Z0 (own_cp _ _ (by decide))) e2 (g := (mkF m 66 #[oR x1, oI (1048576 : Int32), oI (1 : Int32), oI (0 : Int32), oI (0 : Int32), oI (y0 &&& (255 : Int32))] [(.int (y0 &&& (255 : Int32))), (.int (0 : Int32))])) rfl (by rw [hml]; rfl) [(.int (y0 &&& (255 : Int32)))] [(.int (0 : Int32))] 1 (lenOf pd_7 rfl) rfl rfl (by show 2 * 0 + _ ≤ _; exact Nat.le_of_eq rfl) (hb hby d12_66) (by decide) (by decide) (by decide) (by decide) rfl rfl ?_
  intro T3 X3 e3
  show Done _ p e below s _ _ (T3.setTop (mkF m 69 #[oR x1, oI (1048576 : Int32), oI (1 : Int32), oI (0 : Int32), oI (0 : Int32), oI (y0 &&& (255 : Int32))] [(.int (own_u8 (y0 &&& (255 : Int32)))), (.int (0 : Int32))]))
  refine Done.step (fun _ => XS.iadd X3.here hx rfl (hb hby d12_69) rfl) ?_
  show Done _ p e below s _ _ (T3.setTop (mkF m 70 #[oR x1, oI (1048576 : Int32), oI (1 : Int32), oI (0 : Int32), oI (0 : Int32), oI (y0 &&& (255 : Int32))] [(.int ((0 : Int32) + (own_u8 (y0 &&& (255 : Int32)))))]))
  refine Done.step (fun _ => XS.istoreN X3.here hx rfl (hb hby d12_70) rfl (l' := #[oR x1, oI (1048576 : Int32), oI (1 : Int32), oI ((0 : Int32) + (own_u8 (y0 &&& (255 : Int32)))), oI (0 : Int32), oI (y0 &&& (255 : Int32))]) rfl) ?_
  show Done _ p e below s _ _ (T3.setTop (mkF m 71 #[oR x1, oI (1048576 : Int32), oI (1 : Int32), oI ((0 : Int32) + (own_u8 (y0 &&& (255 : Int32)))), oI (0 : Int32), oI (y0 &&& (255 : Int32))] []))
  refine Done.step (fun _ => XS.iload X3.here hx rfl (hb hby d12_71) rfl) ?_
  show Done _ p e below s _ _ (T3.setTop (mkF m 73 #[oR x1, oI (1048576 : Int32), oI (1 : Int32), oI ((0 : Int32) + (own_u8 (y0 &&& (255 : Int32)))), oI (0 : Int32), oI (y0 &&& (255 : Int32))] [(.int (0 : Int32))]))
  refine Done.step (fun _ => XS.iload X3.here hx rfl (hb hby d12_73) rfl) ?_
  show Done _ p e below s _ _ (T3.setTop (mkF m 75 #[oR x1, oI (1048576 : Int32), oI (1 : Int32), oI ((0 : Int32) + (own_u8 (y0 &&& (255 : Int32)))), oI (0 : Int32), oI (y0 &&& (255 : Int32))] [(.int (y0 &&& (255 : Int32))), (.int (0 : Int32))]))
  refine Done.callSP X3 hx hZ hown (wAt hw 92 rfl) (wAt hw 93 rfl) (wAt hw 94 rfl) (wAt hw 95 rfl) (by decide) (rmCC l Z a0 hw [] (y0 &&& (255 : Int32)) h0 n0 Z0 (own_cp _ _ (by decide))) e3 (g := (mkF m 75 #[oR x1, oI (1048576 : Int32), oI (1 : Int32), oI ((0 : Int32) + (own_u8 (y0 &&& (255 : Int32)))), oI (0 : Int32), oI (y0 &&& (255 : Int32))] [(.int (y0 &&& (255 : Int32))), (.int (0 : Int32))])) rfl (by rw [hml]; rfl) [(.int (y0 &&& (255 : Int32)))] [(.int (0 : Int32))] 1 (lenOf pd_7 rfl) rfl rfl (by show 2 * 0 + _ ≤ _; exact Nat.le_of_eq rfl) (hb hby d12_75) (by decide) (by decide) (by decide) (by decide) rfl rfl ?_
  intro T4 X4 e4
  show Done _ p e below s _ _ (T4.setTop (mkF m 78 #[oR x1, oI (1048576 : Int32), oI (1 : Int32), oI ((0 : Int32) + (own_u8 (y0 &&& (255 : Int32)))), oI (0 : Int32), oI (y0 &&& (255 : Int32))] [(.int (1 : Int32)), (.int (0 : Int32))]))
  refine Done.step (fun _ => XS.iadd X4.here hx rfl (hb hby d12_78) rfl) ?_
  show Done _ p e below s _ _ (T4.setTop (mkF m 79 #[oR x1, oI (1048576 : Int32), oI (1 : Int32), oI ((0 : Int32) + (own_u8 (y0 &&& (255 : Int32)))), oI (0 : Int32), oI (y0 &&& (255 : Int32))] [(.int (1 : Int32))]))
  refine Done.step (fun _ => XS.istore X4.here hx rfl (hb hby d12_79) rfl (l' := #[oR x1, oI (1048576 : Int32), oI (1 : Int32), oI ((0 : Int32) + (own_u8 (y0 &&& (255 : Int32)))), oI (1 : Int32), oI (y0 &&& (255 : Int32))]) rfl) ?_
  show Done _ p e below s _ _ (T4.setTop (mkF m 81 #[oR x1, oI (1048576 : Int32), oI (1 : Int32), oI ((0 : Int32) + (own_u8 (y0 &&& (255 : Int32)))), oI (1 : Int32), oI (y0 &&& (255 : Int32))] []))
  refine Done.step (fun _ => XS.goto X4.here hx rfl (pc0 := 81) (pc' := 5) rfl (hb hby d12_81) (by decide) (by decide)) ?_
  show Done _ p e below s _ _ (T4.setTop (mkF m 5 #[oR x1, oI (1048576 : Int32), oI (1 : Int32), oI ((0 : Int32) + (own_u8 (y0 &&& (255 : Int32)))), oI (1 : Int32), oI (y0 &&& (255 : Int32))] []))
  refine Done.step (fun _ => XS.iload X4.here hx rfl (hb hby d12_5) rfl) ?_
  show Done _ p e below s _ _ (T4.setTop (mkF m 7 #[oR x1, oI (1048576 : Int32), oI (1 : Int32), oI ((0 : Int32) + (own_u8 (y0 &&& (255 : Int32)))), oI (1 : Int32), oI (y0 &&& (255 : Int32))] [(.int (1 : Int32))]))
  refine Done.step (fun _ => XS.aloadN X4.here hx rfl (hb hby d12_7) rfl rfl) ?_
  show Done _ p e below s _ _ (T4.setTop (mkF m 8 #[oR x1, oI (1048576 : Int32), oI (1 : Int32), oI ((0 : Int32) + (own_u8 (y0 &&& (255 : Int32)))), oI (1 : Int32), oI (y0 &&& (255 : Int32))] [(.ref x1), (.int (1 : Int32))]))
  refine Done.callVP X4 hx hZ (C := "java/lang/String") hown (wAt hw 60 rfl) (wAt hw 61 rfl) (notFace_of_selects (args := #[]) (mvT hZ (wAt hw 63 rfl))) (wAt hw 63 rfl) (wAt hw 62 rfl) (wAt hw 11 rfl) (wAt hw 64 rfl) (by decide) (rmL1 l Z a0 hw [] x1 t1 kb1 y0 z h0 n0 Z0 O0 SC hz E1 V1 C1 K1) e4 E1 (g := (mkF m 8 #[oR x1, oI (1048576 : Int32), oI (1 : Int32), oI ((0 : Int32) + (own_u8 (y0 &&& (255 : Int32)))), oI (1 : Int32), oI (y0 &&& (255 : Int32))] [(.ref x1), (.int (1 : Int32))])) rfl (by rw [hml]; rfl) [] [(.int (1 : Int32))] 1 (lenOf pd_3 rfl) rfl rfl (by show 2 * 0 + _ ≤ _; exact Nat.le_of_eq rfl) (hb hby d12_8) (by decide) (by decide) (by decide) (by decide) rfl rfl ?_
  intro T5 X5 e5
  show Done _ p e below s _ _ (T5.setTop (mkF m 11 #[oR x1, oI (1048576 : Int32), oI (1 : Int32), oI ((0 : Int32) + (own_u8 (y0 &&& (255 : Int32)))), oI (1 : Int32), oI (y0 &&& (255 : Int32))] [(.int (1 : Int32)), (.int (1 : Int32))]))
  refine Done.step (fun _ => XS.icmpYes X5.here hx rfl (pc0 := 11) (pc' := 84) rfl (hb hby d12_11) rfl (XT.ii_ge_t (by decide)) (by decide) (by decide)) ?_
  show Done _ p e below s _ _ (T5.setTop (mkF m 84 #[oR x1, oI (1048576 : Int32), oI (1 : Int32), oI ((0 : Int32) + (own_u8 (y0 &&& (255 : Int32)))), oI (1 : Int32), oI (y0 &&& (255 : Int32))] []))
  refine Done.step (fun _ => XS.iloadN X5.here hx rfl (hb hby d12_84) rfl) ?_
  show Done _ p e below s _ _ (T5.setTop (mkF m 85 #[oR x1, oI (1048576 : Int32), oI (1 : Int32), oI ((0 : Int32) + (own_u8 (y0 &&& (255 : Int32)))), oI (1 : Int32), oI (y0 &&& (255 : Int32))] [(.int ((0 : Int32) + (own_u8 (y0 &&& (255 : Int32)))))]))
  refine Done.step (fun _ => XS.iloadN X5.here hx rfl (hb hby d12_85) rfl) ?_
  show Done _ p e below s _ _ (T5.setTop (mkF m 86 #[oR x1, oI (1048576 : Int32), oI (1 : Int32), oI ((0 : Int32) + (own_u8 (y0 &&& (255 : Int32)))), oI (1 : Int32), oI (y0 &&& (255 : Int32))] [(.int (1048576 : Int32)), (.int ((0 : Int32) + (own_u8 (y0 &&& (255 : Int32)))))]))
  refine Done.step (fun _ => XS.icmpNo X5.here hx rfl (hb hby d12_86) rfl (XT.ii_gt_f (own_l1 _))) ?_
  show Done _ p e below s _ _ (T5.setTop (mkF m 89 #[oR x1, oI (1048576 : Int32), oI (1 : Int32), oI ((0 : Int32) + (own_u8 (y0 &&& (255 : Int32)))), oI (1 : Int32), oI (y0 &&& (255 : Int32))] []))
  refine Done.step (fun _ => XT.iconstV X5.here hx rfl (1 : Int32) (hb hby d12_89) (by decide)) ?_
  show Done _ p e below s _ _ (T5.setTop (mkF m 90 #[oR x1, oI (1048576 : Int32), oI (1 : Int32), oI ((0 : Int32) + (own_u8 (y0 &&& (255 : Int32)))), oI (1 : Int32), oI (y0 &&& (255 : Int32))] [(.int (1 : Int32))]))
  refine Done.step (fun _ => XS.goto X5.here hx rfl (pc0 := 90) (pc' := 94) rfl (hb hby d12_90) (by decide) (by decide)) ?_
  show Done _ p e below s _ _ (T5.setTop (mkF m 94 #[oR x1, oI (1048576 : Int32), oI (1 : Int32), oI ((0 : Int32) + (own_u8 (y0 &&& (255 : Int32)))), oI (1 : Int32), oI (y0 &&& (255 : Int32))] [(.int (1 : Int32))]))
  exact Done.retN (leavesF X5 hlk (by decide) (by decide)) X5 hx (t := .boolean) hret (by simp) (hb hby d12_94) ⟨rfl, e5, rfl⟩
set_option maxRecDepth 65536 in
set_option maxHeartbeats 40000000 in
theorem rmR1 (l : Launch) (Z : State) (a0 : Array Value) (hw : ∀ d ∈ tables_1, d.before a0 Z = true) (ws : List Jvm.Cond) (x1 t1 : Addr) (kb1 : ClassId) (y0 : Int32) (z : Int32) (fm : Value) (h0 : Heap) (n0 : Nat) (Z0 : n0 ≤ h0.size) (O0 : Old Z n0 h0) (SC : Sta Z Z.heap "java/lang/String" "COMPACT_STRINGS" "Z" (.int z)) (hz : ¬ z = 0) (SF : Sta Z Z.heap "jdk/internal/util/Preconditions" "SIOOBE_FORMATTER" "Ljava/util/function/BiFunction;" fm) (rF : fm.isRef = true) (E1 : Exa Z h0 x1 "java/lang/String") (V1 : Fld Z h0 x1 "java/lang/String" "value" "[B" (.ref t1)) (C1 : Fld Z h0 x1 "java/lang/String" "coder" "B" (.int (0 : Int32))) (K1 : Arv Z h0 t1 kb1 .byte (1 : Int32) [(.int y0)] (.int 0)) :
    Ctr FrameEnd l Z (⟨"com/example/minho/minho/core/Limits", "requireValue", "(Ljava/lang/String;)Ljava/lang/String;"⟩ : MethodName) prog_23_method_5_code 1 (some (.object "java/lang/String")) ws ({ frames := 4, cells := 0, slots := 0, locals := 64 } : Room) #[(.ref x1)] h0 TrueV (PureQ (some (.ref x1)) h0) := by
  refine Ctr.intro (plainFor_of_name pn_com_example_minho_minho_core_Limits) (Ls := #[.val (.ref x1)]) (fun m => by first | (simp [entryFrame, mkF, argsToLocals, Value.category]; done) | rfl) ?_
  intro p e s m below meth c T0 hx hby hml hown hnm hret hlk hZ hV hsh e0 X0
  have N0 := Fr.nil n0
  show Done _ p e below s _ _ (T0.setTop (mkF m 0 #[oR x1] []))
  refine Done.step (fun _ => XS.aloadN X0.here hx rfl (hb hby d11_0) rfl rfl) ?_
  show Done _ p e below s _ _ (T0.setTop (mkF m 1 #[oR x1] [(.ref x1)]))
  refine Done.step (fun _ => XS.ifnullNo X0.here hx rfl (hb hby d11_1) rfl) ?_
  show Done _ p e below s _ _ (T0.setTop (mkF m 4 #[oR x1] []))
  refine Done.step (fun _ => XS.aloadN X0.here hx rfl (hb hby d11_4) rfl rfl) ?_
  show Done _ p e below s _ _ (T0.setTop (mkF m 5 #[oR x1] [(.ref x1)]))
  refine Done.step (fun _ => Stand.ldcI X0 hx hown (mvT hZ (wAt hw 56 rfl)) (g := (mkF m 5 #[oR x1] [(.ref x1)])) rfl (hb hby d11_5)) ?_
  show Done _ p e below s _ _ (T0.setTop (mkF m 7 #[oR x1] [(.int (1048576 : Int32)), (.ref x1)]))
  refine Done.step (fun _ => XT.iconstV X0.here hx rfl (1 : Int32) (hb hby d11_7) (by decide)) ?_
  show Done _ p e below s _ _ (T0.setTop (mkF m 8 #[oR x1] [(.int (1 : Int32)), (.int (1048576 : Int32)), (.ref x1)]))
  refine Done.callSP X0 hx hZ hown (wAt hw 57 rfl) (wAt hw 58 rfl) (wAt hw 54 rfl) (wAt hw 59 rfl) (by decide) (rmU1 l Z a0 hw [] x1 t1 kb1 y0 z fm h0 n0 Z0 O0 SC hz SF rF E1 V1 C1 K1) e0 (g := (mkF m 8 #[oR x1] [(.int (1 : Int32)), (.int (1048576 : Int32)), (.ref x1)])) rfl (by rw [hml]; rfl) [(.ref x1), (.int (1048576 : Int32)), (.int (1 : Int32))] [] 0 (lenOf pd_4 rfl) rfl rfl (by show 2 * 0 + _ ≤ _; exact Nat.le_of_eq rfl) (hb hby d11_8) (by decide) (by decide) (by decide) (by decide) rfl rfl ?_
  intro T1 X1 e1
  show Done _ p e below s _ _ (T1.setTop (mkF m 11 #[oR x1] [(.int (1 : Int32))]))
  refine Done.step (fun _ => XS.ifYes X1.here hx rfl (pc0 := 11) (pc' := 24) rfl (hb hby d11_11) rfl (XT.i0_ne_t (by decide)) (by decide) (by decide)) ?_
  show Done _ p e below s _ _ (T1.setTop (mkF m 24 #[oR x1] []))
  refine Done.step (fun _ => XS.aloadN X1.here hx rfl (hb hby d11_24) rfl rfl) ?_
  show Done _ p e below s _ _ (T1.setTop (mkF m 25 #[oR x1] [(.ref x1)]))
  exact Done.retA (leavesF X1 hlk (by decide) (by decide)) X1 hx hret rfl rfl (hb hby d11_25) ⟨rfl, e1, rfl⟩
set_option maxRecDepth 65536 in
set_option maxHeartbeats 40000000 in
theorem rmL2 (l : Launch) (Z : State) (a0 : Array Value) (hw : ∀ d ∈ tables_1, d.before a0 Z = true) (ws : List Jvm.Cond) (x1 t1 : Addr) (kb1 : ClassId) (y0 : Int32) (y1 : Int32) (z : Int32) (h0 : Heap) (n0 : Nat) (Z0 : n0 ≤ h0.size) (O0 : Old Z n0 h0) (SC : Sta Z Z.heap "java/lang/String" "COMPACT_STRINGS" "Z" (.int z)) (hz : ¬ z = 0) (E1 : Exa Z h0 x1 "java/lang/String") (V1 : Fld Z h0 x1 "java/lang/String" "value" "[B" (.ref t1)) (C1 : Fld Z h0 x1 "java/lang/String" "coder" "B" (.int (0 : Int32))) (K1 : Arv Z h0 t1 kb1 .byte (2 : Int32) [(.int y0), (.int y1)] (.int 0)) :
    Ctr FrameEnd l Z (⟨"java/lang/String", "length", "()I"⟩ : MethodName) jdk_42_method_54_code 1 (some .int) ws ({ frames := 1, cells := 0, slots := 0, locals := 13 } : Room) #[(.ref x1)] h0 TrueV (PureQ (some (.int (2 : Int32))) h0) := by
  refine Ctr.intro (plainFor_of_name pn_java_lang_String) (Ls := #[.val (.ref x1)]) (fun m => by first | (simp [entryFrame, mkF, argsToLocals, Value.category]; done) | rfl) ?_
  intro p e s m below meth c T0 hx hby hml hown hnm hret hlk hZ hV hsh e0 X0
  have N0 := Fr.nil n0
  show Done _ p e below s _ _ (T0.setTop (mkF m 0 #[oR x1] []))
  refine Done.step (fun _ => XS.aloadN X0.here hx rfl (hb hby d13_0) rfl rfl) ?_
  show Done _ p e below s _ _ (T0.setTop (mkF m 1 #[oR x1] [(.ref x1)]))
  obtain ⟨T1, X1, e1, st1⟩ := getF X0 hx hZ hown (host := "") (Or.inl (wAt hw 40 rfl)) Via.refl e0 V1 (g := (mkF m 1 #[oR x1] [(.ref x1)])) rfl rfl (hb hby d13_1)
  refine Done.step st1 ?_
  show Done _ p e below s _ _ (T1.setTop (mkF m 4 #[oR x1] [(.ref t1)]))
  obtain ⟨cl2, Ar2, q2, S2, Nn2, H2, G2⟩ := id K1
  refine Done.step (X1.arraylength hx (by first | exact Ar2.1 | (rw [e1]; exact Ar2.1)) (State.isArrayOf_alike hZ.alike Ar2.2.1) (g := (mkF m 4 #[oR x1] [(.ref t1)])) rfl rfl (hb hby d13_4)) ?_
  rw [len_of S2 Nn2]
  show Done _ p e below s _ _ (T1.setTop (mkF m 5 #[oR x1] [(.int (2 : Int32))]))
  refine Done.step (fun _ => XS.aloadN X1.here hx rfl (hb hby d13_5) rfl rfl) ?_
  show Done _ p e below s _ _ (T1.setTop (mkF m 6 #[oR x1] [(.ref x1), (.int (2 : Int32))]))
  refine Done.callVP X1 hx hZ (C := "java/lang/String") hown (wAt hw 65 rfl) (wAt hw 66 rfl) (notFace_of_selects (args := #[]) (mvT hZ (wAt hw 68 rfl))) (wAt hw 68 rfl) (wAt hw 67 rfl) (wAt hw 11 rfl) (wAt hw 69 rfl) (by decide) (rmCo l Z a0 hw [] x1 z h0 n0 Z0 O0 SC hz C1) e1 E1 (g := (mkF m 6 #[oR x1] [(.ref x1), (.int (2 : Int32))])) rfl (by rw [hml]; rfl) [] [(.int (2 : Int32))] 1 (lenOf pd_2 rfl) rfl rfl (by show 2 * 0 + _ ≤ _; exact Nat.le_of_eq rfl) (hb hby d13_6) (by decide) (by decide) (by decide) (by decide) rfl rfl ?_
  intro T3 X3 e3
  show Done _ p e below s _ _ (T3.setTop (mkF m 9 #[oR x1] [(.int (0 : Int32)), (.int (2 : Int32))]))
  refine Done.step (fun _ => XT.ishr X3.here hx rfl (hb hby d13_9) rfl) ?_
  show Done _ p e below s _ _ (T3.setTop (mkF m 10 #[oR x1] [(.int (2 : Int32))]))
  exact Done.retI (leavesF X3 hlk (by decide) (by decide)) X3 hx hret (hb hby d13_10) ⟨rfl, e3, rfl⟩
set_option maxRecDepth 65536 in
set_option maxHeartbeats 40000000 in
theorem rmC20 (l : Launch) (Z : State) (a0 : Array Value) (hw : ∀ d ∈ tables_1, d.before a0 Z = true) (ws : List Jvm.Cond) (x1 t1 : Addr) (kb1 : ClassId) (y0 : Int32) (y1 : Int32) (z : Int32) (fm : Value) (h0 : Heap) (n0 : Nat) (Z0 : n0 ≤ h0.size) (O0 : Old Z n0 h0) (SC : Sta Z Z.heap "java/lang/String" "COMPACT_STRINGS" "Z" (.int z)) (hz : ¬ z = 0) (SF : Sta Z Z.heap "jdk/internal/util/Preconditions" "SIOOBE_FORMATTER" "Ljava/util/function/BiFunction;" fm) (rF : fm.isRef = true) (E1 : Exa Z h0 x1 "java/lang/String") (V1 : Fld Z h0 x1 "java/lang/String" "value" "[B" (.ref t1)) (C1 : Fld Z h0 x1 "java/lang/String" "coder" "B" (.int (0 : Int32))) (K1 : Arv Z h0 t1 kb1 .byte (2 : Int32) [(.int y0), (.int y1)] (.int 0)) :
    Ctr FrameEnd l Z (⟨"java/lang/String", "codePointAt", "(I)I"⟩ : MethodName) jdk_42_method_57_code 3 (some .int) ws ({ frames := 2, cells := 0, slots := 0, locals := 30 } : Room) #[(.ref x1), (.int (0 : Int32))] h0 TrueV (PureQ (some (.int (y0 &&& (255 : Int32)))) h0) := by
  refine Ctr.intro (plainFor_of_name pn_java_lang_String) (Ls := #[.val (.ref x1), .val (.int (0 : Int32)), .unset]) (fun m => by first | (simp [entryFrame, mkF, argsToLocals, Value.category]; done) | rfl) ?_
  intro p e s m below meth c T0 hx hby hml hown hnm hret hlk hZ hV hsh e0 X0
  have N0 := Fr.nil n0
  show Done _ p e below s _ _ (T0.setTop (mkF m 0 #[oR x1, oI (0 : Int32), .unset] []))
  refine Done.step (fun _ => XS.aloadN X0.here hx rfl (hb hby d15_0) rfl rfl) ?_
  show Done _ p e below s _ _ (T0.setTop (mkF m 1 #[oR x1, oI (0 : Int32), .unset] [(.ref x1)]))
  refine Done.callVP X0 hx hZ (C := "java/lang/String") hown (wAt hw 75 rfl) (wAt hw 76 rfl) (notFace_of_selects (args := #[]) (mvT hZ (wAt hw 78 rfl))) (wAt hw 78 rfl) (wAt hw 77 rfl) (wAt hw 11 rfl) (wAt hw 79 rfl) (by decide) (rmIL l Z a0 hw [] x1 z h0 n0 Z0 O0 SC hz C1) e0 E1 (g := (mkF m 1 #[oR x1, oI (0 : Int32), .unset] [(.ref x1)])) rfl (by rw [hml]; rfl) [] [] 0 (lenOf pd_5 rfl) rfl rfl (by show 2 * 0 + _ ≤ _; exact Nat.le_of_eq rfl) (hb hby d15_1) (by decide) (by decide) (by decide) (by decide) rfl rfl ?_
  intro T1 X1 e1
  show Done _ p e below s _ _ (T1.setTop (mkF m 4 #[oR x1, oI (0 : Int32), .unset] [(.int (1 : Int32))]))
  refine Done.step (fun _ => XS.ifNo X1.here hx rfl (hb hby d15_4) rfl (XT.i0_eq_f (by decide))) ?_
  show Done _ p e below s _ _ (T1.setTop (mkF m 7 #[oR x1, oI (0 : Int32), .unset] []))
  refine Done.step (fun _ => XS.iloadN X1.here hx rfl (hb hby d15_7) rfl) ?_
  show Done _ p e below s _ _ (T1.setTop (mkF m 8 #[oR x1, oI (0 : Int32), .unset] [(.int (0 : Int32))]))
  refine Done.step (fun _ => XS.aloadN X1.here hx rfl (hb hby d15_8) rfl rfl) ?_
  show Done _ p e below s _ _ (T1.setTop (mkF m 9 #[oR x1, oI (0 : Int32), .unset] [(.ref x1), (.int (0 : Int32))]))
  obtain ⟨T2, X2, e2, st2⟩ := getF X1 hx hZ hown (host := "") (Or.inl (wAt hw 40 rfl)) Via.refl e1 V1 (g := (mkF m 9 #[oR x1, oI (0 : Int32), .unset] [(.ref x1), (.int (0 : Int32))])) rfl rfl (hb hby d15_9)
  refine Done.step st2 ?_
  show Done _ p e below s _ _ (T2.setTop (mkF m 12 #[oR x1, oI (0 : Int32), .unset] [(.ref t1), (.int (0 : Int32))]))
  obtain ⟨cl3, Ar3, q3, S3, Nn3, H3, G3⟩ := id K1
  refine Done.step (X2.arraylength hx (by first | exact Ar3.1 | (rw [e2]; exact Ar3.1)) (State.isArrayOf_alike hZ.alike Ar3.2.1) (g := (mkF m 12 #[oR x1, oI (0 : Int32), .unset] [(.ref t1), (.int (0 : Int32))])) rfl rfl (hb hby d15_12)) ?_
  rw [len_of S3 Nn3]
  show Done _ p e below s _ _ (T2.setTop (mkF m 13 #[oR x1, oI (0 : Int32), .unset] [(.int (2 : Int32)), (.int (0 : Int32))]))
  refine Done.callSP X2 hx hZ hown (wAt hw 80 rfl) (wAt hw 81 rfl) (wAt hw 11 rfl) (wAt hw 82 rfl) (by decide) (rmCI l Z a0 hw [] (0 : Int32) (2 : Int32) z fm h0 n0 Z0 O0 SC hz SF rF (by decide) (by decide)) e2 (g := (mkF m 13 #[oR x1, oI (0 : Int32), .unset] [(.int (2 : Int32)), (.int (0 : Int32))])) rfl (by rw [hml]; rfl) [(.int (0 : Int32)), (.int (2 : Int32))] [] 0 (lenOf pd_6 rfl) rfl rfl (by show 2 * 0 + _ ≤ _; exact Nat.le_of_eq rfl) (hb hby d15_13) (by decide) (by decide) (by decide) (by decide) rfl rfl ?_
  intro T4 X4 e4
  show Done _ p e below s _ _ (T4.setTop (mkF m 16 #[oR x1, oI (0 : Int32), .unset] []))
  refine Done.step (fun _ => XS.aloadN X4.here hx rfl (hb hby d15_16) rfl rfl) ?_
  show Done _ p e below s _ _ (T4.setTop (mkF m 17 #[oR x1, oI (0 : Int32), .unset] [(.ref x1)]))
  obtain ⟨T5, X5, e5, st5⟩ := getF X4 hx hZ hown (host := "") (Or.inl (wAt hw 40 rfl)) Via.refl e4 V1 (g := (mkF m 17 #[oR x1, oI (0 : Int32), .unset] [(.ref x1)])) rfl rfl (hb hby d15_17)
  refine Done.step st5 ?_
  show Done _ p e below s _ _ (T5.setTop (mkF m 20 #[oR x1, oI (0 : Int32), .unset] [(.ref t1)]))
  refine Done.step (fun _ => XS.iloadN X5.here hx rfl (hb hby d15_20) rfl) ?_
  show Done _ p e below s _ _ (T5.setTop (mkF m 21 #[oR x1, oI (0 : Int32), .unset] [(.int (0 : Int32)), (.ref t1)]))
  obtain ⟨cl6, Ar6, q6, S6, Nn6, H6, G6⟩ := id K1
  have hin6 : ¬ ((0 : Int32) < 0 ∨ cl6.slots.size ≤ ((0 : Int32)).toNatClampNeg) := inb_of S6 ⟨by decide, by decide⟩
  have hat6 := Has.at H6 hin6 (v := (.int y0)) rfl
  refine Done.step (X5.baloadBytes hx (j := (0 : Int32)) (v := (.int y0)) (by first | exact Ar6.1 | (rw [e5]; exact Ar6.1)) (State.isArrayOf_alike hZ.alike Ar6.2.1) Ar6.2.2 hin6 hat6 (g := (mkF m 21 #[oR x1, oI (0 : Int32), .unset] [(.int (0 : Int32)), (.ref t1)])) rfl rfl (hb hby d15_21)) ?_
  show Done _ p e below s _ _ (T5.setTop (mkF m 22 #[oR x1, oI (0 : Int32), .unset] [(.int y0)]))
  refine Done.step (fun _ => XT.sipushV X5.here hx rfl (255 : Int32) (hb hby d15_22) (by decide)) ?_
  show Done _ p e below s _ _ (T5.setTop (mkF m 25 #[oR x1, oI (0 : Int32), .unset] [(.int (255 : Int32)), (.int y0)]))
  refine Done.step (fun _ => XS.iand X5.here hx rfl (hb hby d15_25) rfl) ?_
  show Done _ p e below s _ _ (T5.setTop (mkF m 26 #[oR x1, oI (0 : Int32), .unset] [(.int (y0 &&& (255 : Int32)))]))
  exact Done.retI (leavesF X5 hlk (by decide) (by decide)) X5 hx hret (hb hby d15_26) ⟨rfl, e5, rfl⟩
set_option maxRecDepth 65536 in
set_option maxHeartbeats 40000000 in
theorem rmC21 (l : Launch) (Z : State) (a0 : Array Value) (hw : ∀ d ∈ tables_1, d.before a0 Z = true) (ws : List Jvm.Cond) (x1 t1 : Addr) (kb1 : ClassId) (y0 : Int32) (y1 : Int32) (z : Int32) (fm : Value) (h0 : Heap) (n0 : Nat) (Z0 : n0 ≤ h0.size) (O0 : Old Z n0 h0) (SC : Sta Z Z.heap "java/lang/String" "COMPACT_STRINGS" "Z" (.int z)) (hz : ¬ z = 0) (SF : Sta Z Z.heap "jdk/internal/util/Preconditions" "SIOOBE_FORMATTER" "Ljava/util/function/BiFunction;" fm) (rF : fm.isRef = true) (E1 : Exa Z h0 x1 "java/lang/String") (V1 : Fld Z h0 x1 "java/lang/String" "value" "[B" (.ref t1)) (C1 : Fld Z h0 x1 "java/lang/String" "coder" "B" (.int (0 : Int32))) (K1 : Arv Z h0 t1 kb1 .byte (2 : Int32) [(.int y0), (.int y1)] (.int 0)) :
    Ctr FrameEnd l Z (⟨"java/lang/String", "codePointAt", "(I)I"⟩ : MethodName) jdk_42_method_57_code 3 (some .int) ws ({ frames := 2, cells := 0, slots := 0, locals := 30 } : Room) #[(.ref x1), (.int (1 : Int32))] h0 TrueV (PureQ (some (.int (y1 &&& (255 : Int32)))) h0) := by
  refine Ctr.intro (plainFor_of_name pn_java_lang_String) (Ls := #[.val (.ref x1), .val (.int (1 : Int32)), .unset]) (fun m => by first | (simp [entryFrame, mkF, argsToLocals, Value.category]; done) | rfl) ?_
  intro p e s m below meth c T0 hx hby hml hown hnm hret hlk hZ hV hsh e0 X0
  have N0 := Fr.nil n0
  show Done _ p e below s _ _ (T0.setTop (mkF m 0 #[oR x1, oI (1 : Int32), .unset] []))
  refine Done.step (fun _ => XS.aloadN X0.here hx rfl (hb hby d15_0) rfl rfl) ?_
  show Done _ p e below s _ _ (T0.setTop (mkF m 1 #[oR x1, oI (1 : Int32), .unset] [(.ref x1)]))
  refine Done.callVP X0 hx hZ (C := "java/lang/String") hown (wAt hw 75 rfl) (wAt hw 76 rfl) (notFace_of_selects (args := #[]) (mvT hZ (wAt hw 78 rfl))) (wAt hw 78 rfl) (wAt hw 77 rfl) (wAt hw 11 rfl) (wAt hw 79 rfl) (by decide) (rmIL l Z a0 hw [] x1 z h0 n0 Z0 O0 SC hz C1) e0 E1 (g := (mkF m 1 #[oR x1, oI (1 : Int32), .unset] [(.ref x1)])) rfl (by rw [hml]; rfl) [] [] 0 (lenOf pd_5 rfl) rfl rfl (by show 2 * 0 + _ ≤ _; exact Nat.le_of_eq rfl) (hb hby d15_1) (by decide) (by decide) (by decide) (by decide) rfl rfl ?_
  intro T1 X1 e1
  show Done _ p e below s _ _ (T1.setTop (mkF m 4 #[oR x1, oI (1 : Int32), .unset] [(.int (1 : Int32))]))
  refine Done.step (fun _ => XS.ifNo X1.here hx rfl (hb hby d15_4) rfl (XT.i0_eq_f (by decide))) ?_
  show Done _ p e below s _ _ (T1.setTop (mkF m 7 #[oR x1, oI (1 : Int32), .unset] []))
  refine Done.step (fun _ => XS.iloadN X1.here hx rfl (hb hby d15_7) rfl) ?_
  show Done _ p e below s _ _ (T1.setTop (mkF m 8 #[oR x1, oI (1 : Int32), .unset] [(.int (1 : Int32))]))
  refine Done.step (fun _ => XS.aloadN X1.here hx rfl (hb hby d15_8) rfl rfl) ?_
  show Done _ p e below s _ _ (T1.setTop (mkF m 9 #[oR x1, oI (1 : Int32), .unset] [(.ref x1), (.int (1 : Int32))]))
  obtain ⟨T2, X2, e2, st2⟩ := getF X1 hx hZ hown (host := "") (Or.inl (wAt hw 40 rfl)) Via.refl e1 V1 (g := (mkF m 9 #[oR x1, oI (1 : Int32), .unset] [(.ref x1), (.int (1 : Int32))])) rfl rfl (hb hby d15_9)
  refine Done.step st2 ?_
  show Done _ p e below s _ _ (T2.setTop (mkF m 12 #[oR x1, oI (1 : Int32), .unset] [(.ref t1), (.int (1 : Int32))]))
  obtain ⟨cl3, Ar3, q3, S3, Nn3, H3, G3⟩ := id K1
  refine Done.step (X2.arraylength hx (by first | exact Ar3.1 | (rw [e2]; exact Ar3.1)) (State.isArrayOf_alike hZ.alike Ar3.2.1) (g := (mkF m 12 #[oR x1, oI (1 : Int32), .unset] [(.ref t1), (.int (1 : Int32))])) rfl rfl (hb hby d15_12)) ?_
  rw [len_of S3 Nn3]
  show Done _ p e below s _ _ (T2.setTop (mkF m 13 #[oR x1, oI (1 : Int32), .unset] [(.int (2 : Int32)), (.int (1 : Int32))]))
  refine Done.callSP X2 hx hZ hown (wAt hw 80 rfl) (wAt hw 81 rfl) (wAt hw 11 rfl) (wAt hw 82 rfl) (by decide) (rmCI l Z a0 hw [] (1 : Int32) (2 : Int32) z fm h0 n0 Z0 O0 SC hz SF rF (by decide) (by decide)) e2 (g := (mkF m 13 #[oR x1, oI (1 : Int32), .unset] [(.int (2 : Int32)), (.int (1 : Int32))])) rfl (by rw [hml]; rfl) [(.int (1 : Int32)), (.int (2 : Int32))] [] 0 (lenOf pd_6 rfl) rfl rfl (by show 2 * 0 + _ ≤ _; exact Nat.le_of_eq rfl) (hb hby d15_13) (by decide) (by decide) (by decide) (by decide) rfl rfl ?_
  intro T4 X4 e4
  show Done _ p e below s _ _ (T4.setTop (mkF m 16 #[oR x1, oI (1 : Int32), .unset] []))
  refine Done.step (fun _ => XS.aloadN X4.here hx rfl (hb hby d15_16) rfl rfl) ?_
  show Done _ p e below s _ _ (T4.setTop (mkF m 17 #[oR x1, oI (1 : Int32), .unset] [(.ref x1)]))
  obtain ⟨T5, X5, e5, st5⟩ := getF X4 hx hZ hown (host := "") (Or.inl (wAt hw 40 rfl)) Via.refl e4 V1 (g := (mkF m 17 #[oR x1, oI (1 : Int32), .unset] [(.ref x1)])) rfl rfl (hb hby d15_17)
  refine Done.step st5 ?_
  show Done _ p e below s _ _ (T5.setTop (mkF m 20 #[oR x1, oI (1 : Int32), .unset] [(.ref t1)]))
  refine Done.step (fun _ => XS.iloadN X5.here hx rfl (hb hby d15_20) rfl) ?_
  show Done _ p e below s _ _ (T5.setTop (mkF m 21 #[oR x1, oI (1 : Int32), .unset] [(.int (1 : Int32)), (.ref t1)]))
  obtain ⟨cl6, Ar6, q6, S6, Nn6, H6, G6⟩ := id K1
  have hin6 : ¬ ((1 : Int32) < 0 ∨ cl6.slots.size ≤ ((1 : Int32)).toNatClampNeg) := inb_of S6 ⟨by decide, by decide⟩
  have hat6 := Has.at H6 hin6 (v := (.int y1)) rfl
  refine Done.step (X5.baloadBytes hx (j := (1 : Int32)) (v := (.int y1)) (by first | exact Ar6.1 | (rw [e5]; exact Ar6.1)) (State.isArrayOf_alike hZ.alike Ar6.2.1) Ar6.2.2 hin6 hat6 (g := (mkF m 21 #[oR x1, oI (1 : Int32), .unset] [(.int (1 : Int32)), (.ref t1)])) rfl rfl (hb hby d15_21)) ?_
  show Done _ p e below s _ _ (T5.setTop (mkF m 22 #[oR x1, oI (1 : Int32), .unset] [(.int y1)]))
  refine Done.step (fun _ => XT.sipushV X5.here hx rfl (255 : Int32) (hb hby d15_22) (by decide)) ?_
  show Done _ p e below s _ _ (T5.setTop (mkF m 25 #[oR x1, oI (1 : Int32), .unset] [(.int (255 : Int32)), (.int y1)]))
  refine Done.step (fun _ => XS.iand X5.here hx rfl (hb hby d15_25) rfl) ?_
  show Done _ p e below s _ _ (T5.setTop (mkF m 26 #[oR x1, oI (1 : Int32), .unset] [(.int (y1 &&& (255 : Int32)))]))
  exact Done.retI (leavesF X5 hlk (by decide) (by decide)) X5 hx hret (hb hby d15_26) ⟨rfl, e5, rfl⟩
set_option maxRecDepth 65536 in
set_option maxHeartbeats 40000000 in
theorem rmU2 (l : Launch) (Z : State) (a0 : Array Value) (hw : ∀ d ∈ tables_1, d.before a0 Z = true) (ws : List Jvm.Cond) (x1 t1 : Addr) (kb1 : ClassId) (y0 : Int32) (y1 : Int32) (z : Int32) (fm : Value) (h0 : Heap) (n0 : Nat) (Z0 : n0 ≤ h0.size) (O0 : Old Z n0 h0) (SC : Sta Z Z.heap "java/lang/String" "COMPACT_STRINGS" "Z" (.int z)) (hz : ¬ z = 0) (SF : Sta Z Z.heap "jdk/internal/util/Preconditions" "SIOOBE_FORMATTER" "Ljava/util/function/BiFunction;" fm) (rF : fm.isRef = true) (E1 : Exa Z h0 x1 "java/lang/String") (V1 : Fld Z h0 x1 "java/lang/String" "value" "[B" (.ref t1)) (C1 : Fld Z h0 x1 "java/lang/String" "coder" "B" (.int (0 : Int32))) (K1 : Arv Z h0 t1 kb1 .byte (2 : Int32) [(.int y0), (.int y1)] (.int 0)) :
    Ctr FrameEnd l Z (⟨"com/example/minho/minho/core/Limits", "isUtf8Within", "(Ljava/lang/String;IZ)Z"⟩ : MethodName) prog_23_method_9_code 6 (some .boolean) ws ({ frames := 3, cells := 0, slots := 0, locals := 46 } : Room) #[(.ref x1), (.int (1048576 : Int32)), (.int (1 : Int32))] h0 TrueV (PureQ (some (.int (1 : Int32))) h0) := by
  refine Ctr.intro (plainFor_of_name pn_com_example_minho_minho_core_Limits) (Ls := #[.val (.ref x1), .val (.int (1048576 : Int32)), .val (.int (1 : Int32)), .unset, .unset, .unset]) (fun m => by first | (simp [entryFrame, mkF, argsToLocals, Value.category]; done) | rfl) ?_
  intro p e s m below meth c T0 hx hby hml hown hnm hret hlk hZ hV hsh e0 X0
  have N0 := Fr.nil n0
  show Done _ p e below s _ _ (T0.setTop (mkF m 0 #[oR x1, oI (1048576 : Int32), oI (1 : Int32), .unset, .unset, .unset] []))
  refine Done.step (fun _ => XT.iconstV X0.here hx rfl (0 : Int32) (hb hby d12_0) (by decide)) ?_
  show Done _ p e below s _ _ (T0.setTop (mkF m 1 #[oR x1, oI (1048576 : Int32), oI (1 : Int32), .unset, .unset, .unset] [(.int (0 : Int32))]))
  refine Done.step (fun _ => XS.istoreN X0.here hx rfl (hb hby d12_1) rfl (l' := #[oR x1, oI (1048576 : Int32), oI (1 : Int32), oI (0 : Int32), .unset, .unset]) rfl) ?_
  show Done _ p e below s _ _ (T0.setTop (mkF m 2 #[oR x1, oI (1048576 : Int32), oI (1 : Int32), oI (0 : Int32), .unset, .unset] []))
  refine Done.step (fun _ => XT.iconstV X0.here hx rfl (0 : Int32) (hb hby d12_2) (by decide)) ?_
  show Done _ p e below s _ _ (T0.setTop (mkF m 3 #[oR x1, oI (1048576 : Int32), oI (1 : Int32), oI (0 : Int32), .unset, .unset] [(.int (0 : Int32))]))
  refine Done.step (fun _ => XS.istore X0.here hx rfl (hb hby d12_3) rfl (l' := #[oR x1, oI (1048576 : Int32), oI (1 : Int32), oI (0 : Int32), oI (0 : Int32), .unset]) rfl) ?_
  show Done _ p e below s _ _ (T0.setTop (mkF m 5 #[oR x1, oI (1048576 : Int32), oI (1 : Int32), oI (0 : Int32), oI (0 : Int32), .unset] []))
  refine Done.step (fun _ => XS.iload X0.here hx rfl (hb hby d12_5) rfl) ?_
  show Done _ p e below s _ _ (T0.setTop (mkF m 7 #[oR x1, oI (1048576 : Int32), oI (1 : Int32), oI (0 : Int32), oI (0 : Int32), .unset] [(.int (0 : Int32))]))
  refine Done.step (fun _ => XS.aloadN X0.here hx rfl (hb hby d12_7) rfl rfl) ?_
  show Done _ p e below s _ _ (T0.setTop (mkF m 8 #[oR x1, oI (1048576 : Int32), oI (1 : Int32), oI (0 : Int32), oI (0 : Int32), .unset] [(.ref x1), (.int (0 : Int32))]))
  refine Done.callVP X0 hx hZ (C := "java/lang/String") hown (wAt hw 60 rfl) (wAt hw 61 rfl) (notFace_of_selects (args := #[]) (mvT hZ (wAt hw 63 rfl))) (wAt hw 63 rfl) (wAt hw 62 rfl) (wAt hw 11 rfl) (wAt hw 64 rfl) (by decide) (rmL2 l Z a0 hw [] x1 t1 kb1 y0 y1 z h0 n0 Z0 O0 SC hz E1 V1 C1 K1) e0 E1 (g := (mkF m 8 #[oR x1, oI (1048576 : Int32), oI (1 : Int32), oI (0 : Int32), oI (0 : Int32), .unset] [(.ref x1), (.int (0 : Int32))])) rfl (by rw [hml]; rfl) [] [(.int (0 : Int32))] 1 (lenOf pd_3 rfl) rfl rfl (by show 2 * 0 + _ ≤ _; exact Nat.le_of_eq rfl) (hb hby d12_8) (by decide) (by decide) (by decide) (by decide) rfl rfl ?_
  intro T1 X1 e1
  show Done _ p e below s _ _ (T1.setTop (mkF m 11 #[oR x1, oI (1048576 : Int32), oI (1 : Int32), oI (0 : Int32), oI (0 : Int32), .unset] [(.int (2 : Int32)), (.int (0 : Int32))]))
  refine Done.step (fun _ => XS.icmpNo X1.here hx rfl (hb hby d12_11) rfl (XT.ii_ge_f (by decide))) ?_
  show Done _ p e below s _ _ (T1.setTop (mkF m 14 #[oR x1, oI (1048576 : Int32), oI (1 : Int32), oI (0 : Int32), oI (0 : Int32), .unset] []))
  refine Done.step (fun _ => XS.iloadN X1.here hx rfl (hb hby d12_14) rfl) ?_
  show Done _ p e below s _ _ (T1.setTop (mkF m 15 #[oR x1, oI (1048576 : Int32), oI (1 : Int32), oI (0 : Int32), oI (0 : Int32), .unset] [(.int (0 : Int32))]))
  refine Done.step (fun _ => XS.iloadN X1.here hx rfl (hb hby d12_15) rfl) ?_
  show Done _ p e below s _ _ (T1.setTop (mkF m 16 #[oR x1, oI (1048576 : Int32), oI (1 : Int32), oI (0 : Int32), oI (0 : Int32), .unset] [(.int (1048576 : Int32)), (.int (0 : Int32))]))
  refine Done.step (fun _ => XS.icmpNo X1.here hx rfl (hb hby d12_16) rfl (XT.ii_gt_f (by decide))) ?_
  show Done _ p e below s _ _ (T1.setTop (mkF m 19 #[oR x1, oI (1048576 : Int32), oI (1 : Int32), oI (0 : Int32), oI (0 : Int32), .unset] []))
  refine Done.step (fun _ => XS.aloadN X1.here hx rfl (hb hby d12_19) rfl rfl) ?_
  show Done _ p e below s _ _ (T1.setTop (mkF m 20 #[oR x1, oI (1048576 : Int32), oI (1 : Int32), oI (0 : Int32), oI (0 : Int32), .unset] [(.ref x1)]))
  refine Done.step (fun _ => XS.iload X1.here hx rfl (hb hby d12_20) rfl) ?_
  show Done _ p e below s _ _ (T1.setTop (mkF m 22 #[oR x1, oI (1048576 : Int32), oI (1 : Int32), oI (0 : Int32), oI (0 : Int32), .unset] [(.int (0 : Int32)), (.ref x1)]))
  refine Done.callVP X1 hx hZ (C := "java/lang/String") hown (wAt hw 70 rfl) (wAt hw 71 rfl) (notFace_of_selects (args := #[]) (mvT hZ (wAt hw 73 rfl))) (wAt hw 73 rfl) (wAt hw 72 rfl) (wAt hw 11 rfl) (wAt hw 74 rfl) (by decide) (rmC20 l Z a0 hw [] x1 t1 kb1 y0 y1 z fm h0 n0 Z0 O0 SC hz SF rF E1 V1 C1 K1) e1 E1 (g := (mkF m 22 #[oR x1, oI (1048576 : Int32), oI (1 : Int32), oI (0 : Int32), oI (0 : Int32), .unset] [(.int (0 : Int32)), (.ref x1)])) rfl (by rw [hml]; rfl) [(.int (0 : Int32))] [] 0 (lenOf pd_7 rfl) rfl rfl (by show 2 * 0 + _ ≤ _; exact Nat.le_of_eq rfl) (hb hby d12_22) (by decide) (by decide) (by decide) (by decide) rfl rfl ?_
  intro T2 X2 e2
  show Done _ p e below s _ _ (T2.setTop (mkF m 25 #[oR x1, oI (1048576 : Int32), oI (1 : Int32), oI (0 : Int32), oI (0 : Int32), .unset] [(.int (y0 &&& (255 : Int32)))]))
  refine Done.step (fun _ => XS.istore X2.here hx rfl (hb hby d12_25) rfl (l' := #[oR x1, oI (1048576 : Int32), oI (1 : Int32), oI (0 : Int32), oI (0 : Int32), oI (y0 &&& (255 : Int32))]) rfl) ?_
  show Done _ p e below s _ _ (T2.setTop (mkF m 27 #[oR x1, oI (1048576 : Int32), oI (1 : Int32), oI (0 : Int32), oI (0 : Int32), oI (y0 &&& (255 : Int32))] []))
  refine Done.step (fun _ => XS.iload X2.here hx rfl (hb hby d12_27) rfl) ?_
  show Done _ p e below s _ _ (T2.setTop (mkF m 29 #[oR x1, oI (1048576 : Int32), oI (1 : Int32), oI (0 : Int32), oI (0 : Int32), oI (y0 &&& (255 : Int32))] [(.int (y0 &&& (255 : Int32)))]))
  refine Done.step (fun _ => Stand.ldcI X2 hx hown (mvT hZ (wAt hw 88 rfl)) (g := (mkF m 29 #[oR x1, oI (1048576 : Int32), oI (1 : Int32), oI (0 : Int32), oI (0 : Int32), oI (y0 &&& (255 : Int32))] [(.int (y0 &&& (255 : Int32)))])) rfl (hb hby d12_29)) ?_
  show Done _ p e below s _ _ (T2.setTop (mkF m 31 #[oR x1, oI (1048576 : Int32), oI (1 : Int32), oI (0 : Int32), oI (0 : Int32), oI (y0 &&& (255 : Int32))] [(.int (55296 : Int32)), (.int (y0 &&& (255 : Int32)))]))
  refine Done.step (fun _ => XS.icmpYes X2.here hx rfl (pc0 := 31) (pc' := 43) rfl (hb hby d12_31) rfl (XT.ii_lt_t (own_cp _ _ (by decide))) (by decide) (by decide)) ?_
  show Done _ p e below s _ _ (T2.setTop (mkF m 43 #[oR x1, oI (1048576 : Int32), oI (1 : Int32), oI (0 : Int32), oI (0 : Int32), oI (y0 &&& (255 : Int32))] []))
  refine Done.step (fun _ => XS.iloadN X2.here hx rfl (hb hby d12_43) rfl) ?_
  show Done _ p e below s _ _ (T2.setTop (mkF m 44 #[oR x1, oI (1048576 : Int32), oI (1 : Int32), oI (0 : Int32), oI (0 : Int32), oI (y0 &&& (255 : Int32))] [(.int (1 : Int32))]))
  refine Done.step (fun _ => XS.ifYes X2.here hx rfl (pc0 := 44) (pc' := 63) rfl (hb hby d12_44) rfl (XT.i0_ne_t (by decide)) (by decide) (by decide)) ?_
  show Done _ p e below s _ _ (T2.setTop (mkF m 63 #[oR x1, oI (1048576 : Int32), oI (1 : Int32), oI (0 : Int32), oI (0 : Int32), oI (y0 &&& (255 : Int32))] []))
  refine Done.step (fun _ => XS.iloadN X2.here hx rfl (hb hby d12_63) rfl) ?_
  show Done _ p e below s _ _ (T2.setTop (mkF m 64 #[oR x1, oI (1048576 : Int32), oI (1 : Int32), oI (0 : Int32), oI (0 : Int32), oI (y0 &&& (255 : Int32))] [(.int (0 : Int32))]))
  refine Done.step (fun _ => XS.iload X2.here hx rfl (hb hby d12_64) rfl) ?_
  show Done _ p e below s _ _ (T2.setTop (mkF m 66 #[oR x1, oI (1048576 : Int32), oI (1 : Int32), oI (0 : Int32), oI (0 : Int32), oI (y0 &&& (255 : Int32))] [(.int (y0 &&& (255 : Int32))), (.int (0 : Int32))]))
  refine Done.callSP X2 hx hZ hown (wAt hw 89 rfl) (wAt hw 90 rfl) (wAt hw 54 rfl) (wAt hw 91 rfl) (by decide) (rmU8 l Z a0 hw [] (y0 &&& (255 : Int32)) h0 n0 Z0 (own_cp _ _ (by decide))) e2 (g := (mkF m 66 #[oR x1, oI (1048576 : Int32), oI (1 : Int32), oI (0 : Int32), oI (0 : Int32), oI (y0 &&& (255 : Int32))] [(.int (y0 &&& (255 : Int32))), (.int (0 : Int32))])) rfl (by rw [hml]; rfl) [(.int (y0 &&& (255 : Int32)))] [(.int (0 : Int32))] 1 (lenOf pd_7 rfl) rfl rfl (by show 2 * 0 + _ ≤ _; exact Nat.le_of_eq rfl) (hb hby d12_66) (by decide) (by decide) (by decide) (by decide) rfl rfl ?_
  intro T3 X3 e3
  show Done _ p e below s _ _ (T3.setTop (mkF m 69 #[oR x1, oI (1048576 : Int32), oI (1 : Int32), oI (0 : Int32), oI (0 : Int32), oI (y0 &&& (255 : Int32))] [(.int (own_u8 (y0 &&& (255 : Int32)))), (.int (0 : Int32))]))
  refine Done.step (fun _ => XS.iadd X3.here hx rfl (hb hby d12_69) rfl) ?_
  show Done _ p e below s _ _ (T3.setTop (mkF m 70 #[oR x1, oI (1048576 : Int32), oI (1 : Int32), oI (0 : Int32), oI (0 : Int32), oI (y0 &&& (255 : Int32))] [(.int ((0 : Int32) + (own_u8 (y0 &&& (255 : Int32)))))]))
  refine Done.step (fun _ => XS.istoreN X3.here hx rfl (hb hby d12_70) rfl (l' := #[oR x1, oI (1048576 : Int32), oI (1 : Int32), oI ((0 : Int32) + (own_u8 (y0 &&& (255 : Int32)))), oI (0 : Int32), oI (y0 &&& (255 : Int32))]) rfl) ?_
  show Done _ p e below s _ _ (T3.setTop (mkF m 71 #[oR x1, oI (1048576 : Int32), oI (1 : Int32), oI ((0 : Int32) + (own_u8 (y0 &&& (255 : Int32)))), oI (0 : Int32), oI (y0 &&& (255 : Int32))] []))
  refine Done.step (fun _ => XS.iload X3.here hx rfl (hb hby d12_71) rfl) ?_
  show Done _ p e below s _ _ (T3.setTop (mkF m 73 #[oR x1, oI (1048576 : Int32), oI (1 : Int32), oI ((0 : Int32) + (own_u8 (y0 &&& (255 : Int32)))), oI (0 : Int32), oI (y0 &&& (255 : Int32))] [(.int (0 : Int32))]))
  refine Done.step (fun _ => XS.iload X3.here hx rfl (hb hby d12_73) rfl) ?_
  show Done _ p e below s _ _ (T3.setTop (mkF m 75 #[oR x1, oI (1048576 : Int32), oI (1 : Int32), oI ((0 : Int32) + (own_u8 (y0 &&& (255 : Int32)))), oI (0 : Int32), oI (y0 &&& (255 : Int32))] [(.int (y0 &&& (255 : Int32))), (.int (0 : Int32))]))
  refine Done.callSP X3 hx hZ hown (wAt hw 92 rfl) (wAt hw 93 rfl) (wAt hw 94 rfl) (wAt hw 95 rfl) (by decide) (rmCC l Z a0 hw [] (y0 &&& (255 : Int32)) h0 n0 Z0 (own_cp _ _ (by decide))) e3 (g := (mkF m 75 #[oR x1, oI (1048576 : Int32), oI (1 : Int32), oI ((0 : Int32) + (own_u8 (y0 &&& (255 : Int32)))), oI (0 : Int32), oI (y0 &&& (255 : Int32))] [(.int (y0 &&& (255 : Int32))), (.int (0 : Int32))])) rfl (by rw [hml]; rfl) [(.int (y0 &&& (255 : Int32)))] [(.int (0 : Int32))] 1 (lenOf pd_7 rfl) rfl rfl (by show 2 * 0 + _ ≤ _; exact Nat.le_of_eq rfl) (hb hby d12_75) (by decide) (by decide) (by decide) (by decide) rfl rfl ?_
  intro T4 X4 e4
  show Done _ p e below s _ _ (T4.setTop (mkF m 78 #[oR x1, oI (1048576 : Int32), oI (1 : Int32), oI ((0 : Int32) + (own_u8 (y0 &&& (255 : Int32)))), oI (0 : Int32), oI (y0 &&& (255 : Int32))] [(.int (1 : Int32)), (.int (0 : Int32))]))
  refine Done.step (fun _ => XS.iadd X4.here hx rfl (hb hby d12_78) rfl) ?_
  show Done _ p e below s _ _ (T4.setTop (mkF m 79 #[oR x1, oI (1048576 : Int32), oI (1 : Int32), oI ((0 : Int32) + (own_u8 (y0 &&& (255 : Int32)))), oI (0 : Int32), oI (y0 &&& (255 : Int32))] [(.int (1 : Int32))]))
  refine Done.step (fun _ => XS.istore X4.here hx rfl (hb hby d12_79) rfl (l' := #[oR x1, oI (1048576 : Int32), oI (1 : Int32), oI ((0 : Int32) + (own_u8 (y0 &&& (255 : Int32)))), oI (1 : Int32), oI (y0 &&& (255 : Int32))]) rfl) ?_
  show Done _ p e below s _ _ (T4.setTop (mkF m 81 #[oR x1, oI (1048576 : Int32), oI (1 : Int32), oI ((0 : Int32) + (own_u8 (y0 &&& (255 : Int32)))), oI (1 : Int32), oI (y0 &&& (255 : Int32))] []))
  refine Done.step (fun _ => XS.goto X4.here hx rfl (pc0 := 81) (pc' := 5) rfl (hb hby d12_81) (by decide) (by decide)) ?_
  show Done _ p e below s _ _ (T4.setTop (mkF m 5 #[oR x1, oI (1048576 : Int32), oI (1 : Int32), oI ((0 : Int32) + (own_u8 (y0 &&& (255 : Int32)))), oI (1 : Int32), oI (y0 &&& (255 : Int32))] []))
  refine Done.step (fun _ => XS.iload X4.here hx rfl (hb hby d12_5) rfl) ?_
  show Done _ p e below s _ _ (T4.setTop (mkF m 7 #[oR x1, oI (1048576 : Int32), oI (1 : Int32), oI ((0 : Int32) + (own_u8 (y0 &&& (255 : Int32)))), oI (1 : Int32), oI (y0 &&& (255 : Int32))] [(.int (1 : Int32))]))
  refine Done.step (fun _ => XS.aloadN X4.here hx rfl (hb hby d12_7) rfl rfl) ?_
  show Done _ p e below s _ _ (T4.setTop (mkF m 8 #[oR x1, oI (1048576 : Int32), oI (1 : Int32), oI ((0 : Int32) + (own_u8 (y0 &&& (255 : Int32)))), oI (1 : Int32), oI (y0 &&& (255 : Int32))] [(.ref x1), (.int (1 : Int32))]))
  refine Done.callVP X4 hx hZ (C := "java/lang/String") hown (wAt hw 60 rfl) (wAt hw 61 rfl) (notFace_of_selects (args := #[]) (mvT hZ (wAt hw 63 rfl))) (wAt hw 63 rfl) (wAt hw 62 rfl) (wAt hw 11 rfl) (wAt hw 64 rfl) (by decide) (rmL2 l Z a0 hw [] x1 t1 kb1 y0 y1 z h0 n0 Z0 O0 SC hz E1 V1 C1 K1) e4 E1 (g := (mkF m 8 #[oR x1, oI (1048576 : Int32), oI (1 : Int32), oI ((0 : Int32) + (own_u8 (y0 &&& (255 : Int32)))), oI (1 : Int32), oI (y0 &&& (255 : Int32))] [(.ref x1), (.int (1 : Int32))])) rfl (by rw [hml]; rfl) [] [(.int (1 : Int32))] 1 (lenOf pd_3 rfl) rfl rfl (by show 2 * 0 + _ ≤ _; exact Nat.le_of_eq rfl) (hb hby d12_8) (by decide) (by decide) (by decide) (by decide) rfl rfl ?_
  intro T5 X5 e5
  show Done _ p e below s _ _ (T5.setTop (mkF m 11 #[oR x1, oI (1048576 : Int32), oI (1 : Int32), oI ((0 : Int32) + (own_u8 (y0 &&& (255 : Int32)))), oI (1 : Int32), oI (y0 &&& (255 : Int32))] [(.int (2 : Int32)), (.int (1 : Int32))]))
  refine Done.step (fun _ => XS.icmpNo X5.here hx rfl (hb hby d12_11) rfl (XT.ii_ge_f (by decide))) ?_
  show Done _ p e below s _ _ (T5.setTop (mkF m 14 #[oR x1, oI (1048576 : Int32), oI (1 : Int32), oI ((0 : Int32) + (own_u8 (y0 &&& (255 : Int32)))), oI (1 : Int32), oI (y0 &&& (255 : Int32))] []))
  refine Done.step (fun _ => XS.iloadN X5.here hx rfl (hb hby d12_14) rfl) ?_
  show Done _ p e below s _ _ (T5.setTop (mkF m 15 #[oR x1, oI (1048576 : Int32), oI (1 : Int32), oI ((0 : Int32) + (own_u8 (y0 &&& (255 : Int32)))), oI (1 : Int32), oI (y0 &&& (255 : Int32))] [(.int ((0 : Int32) + (own_u8 (y0 &&& (255 : Int32)))))]))
  refine Done.step (fun _ => XS.iloadN X5.here hx rfl (hb hby d12_15) rfl) ?_
  show Done _ p e below s _ _ (T5.setTop (mkF m 16 #[oR x1, oI (1048576 : Int32), oI (1 : Int32), oI ((0 : Int32) + (own_u8 (y0 &&& (255 : Int32)))), oI (1 : Int32), oI (y0 &&& (255 : Int32))] [(.int (1048576 : Int32)), (.int ((0 : Int32) + (own_u8 (y0 &&& (255 : Int32)))))]))
  refine Done.step (fun _ => XS.icmpNo X5.here hx rfl (hb hby d12_16) rfl (XT.ii_gt_f (own_l1 _))) ?_
  show Done _ p e below s _ _ (T5.setTop (mkF m 19 #[oR x1, oI (1048576 : Int32), oI (1 : Int32), oI ((0 : Int32) + (own_u8 (y0 &&& (255 : Int32)))), oI (1 : Int32), oI (y0 &&& (255 : Int32))] []))
  refine Done.step (fun _ => XS.aloadN X5.here hx rfl (hb hby d12_19) rfl rfl) ?_
  show Done _ p e below s _ _ (T5.setTop (mkF m 20 #[oR x1, oI (1048576 : Int32), oI (1 : Int32), oI ((0 : Int32) + (own_u8 (y0 &&& (255 : Int32)))), oI (1 : Int32), oI (y0 &&& (255 : Int32))] [(.ref x1)]))
  refine Done.step (fun _ => XS.iload X5.here hx rfl (hb hby d12_20) rfl) ?_
  show Done _ p e below s _ _ (T5.setTop (mkF m 22 #[oR x1, oI (1048576 : Int32), oI (1 : Int32), oI ((0 : Int32) + (own_u8 (y0 &&& (255 : Int32)))), oI (1 : Int32), oI (y0 &&& (255 : Int32))] [(.int (1 : Int32)), (.ref x1)]))
  refine Done.callVP X5 hx hZ (C := "java/lang/String") hown (wAt hw 70 rfl) (wAt hw 71 rfl) (notFace_of_selects (args := #[]) (mvT hZ (wAt hw 73 rfl))) (wAt hw 73 rfl) (wAt hw 72 rfl) (wAt hw 11 rfl) (wAt hw 74 rfl) (by decide) (rmC21 l Z a0 hw [] x1 t1 kb1 y0 y1 z fm h0 n0 Z0 O0 SC hz SF rF E1 V1 C1 K1) e5 E1 (g := (mkF m 22 #[oR x1, oI (1048576 : Int32), oI (1 : Int32), oI ((0 : Int32) + (own_u8 (y0 &&& (255 : Int32)))), oI (1 : Int32), oI (y0 &&& (255 : Int32))] [(.int (1 : Int32)), (.ref x1)])) rfl (by rw [hml]; rfl) [(.int (1 : Int32))] [] 0 (lenOf pd_7 rfl) rfl rfl (by show 2 * 0 + _ ≤ _; exact Nat.le_of_eq rfl) (hb hby d12_22) (by decide) (by decide) (by decide) (by decide) rfl rfl ?_
  intro T6 X6 e6
  show Done _ p e below s _ _ (T6.setTop (mkF m 25 #[oR x1, oI (1048576 : Int32), oI (1 : Int32), oI ((0 : Int32) + (own_u8 (y0 &&& (255 : Int32)))), oI (1 : Int32), oI (y0 &&& (255 : Int32))] [(.int (y1 &&& (255 : Int32)))]))
  refine Done.step (fun _ => XS.istore X6.here hx rfl (hb hby d12_25) rfl (l' := #[oR x1, oI (1048576 : Int32), oI (1 : Int32), oI ((0 : Int32) + (own_u8 (y0 &&& (255 : Int32)))), oI (1 : Int32), oI (y1 &&& (255 : Int32))]) rfl) ?_
  show Done _ p e below s _ _ (T6.setTop (mkF m 27 #[oR x1, oI (1048576 : Int32), oI (1 : Int32), oI ((0 : Int32) + (own_u8 (y0 &&& (255 : Int32)))), oI (1 : Int32), oI (y1 &&& (255 : Int32))] []))
  refine Done.step (fun _ => XS.iload X6.here hx rfl (hb hby d12_27) rfl) ?_
  show Done _ p e below s _ _ (T6.setTop (mkF m 29 #[oR x1, oI (1048576 : Int32), oI (1 : Int32), oI ((0 : Int32) + (own_u8 (y0 &&& (255 : Int32)))), oI (1 : Int32), oI (y1 &&& (255 : Int32))] [(.int (y1 &&& (255 : Int32)))]))
  refine Done.step (fun _ => Stand.ldcI X6 hx hown (mvT hZ (wAt hw 88 rfl)) (g := (mkF m 29 #[oR x1, oI (1048576 : Int32), oI (1 : Int32), oI ((0 : Int32) + (own_u8 (y0 &&& (255 : Int32)))), oI (1 : Int32), oI (y1 &&& (255 : Int32))] [(.int (y1 &&& (255 : Int32)))])) rfl (hb hby d12_29)) ?_
  show Done _ p e below s _ _ (T6.setTop (mkF m 31 #[oR x1, oI (1048576 : Int32), oI (1 : Int32), oI ((0 : Int32) + (own_u8 (y0 &&& (255 : Int32)))), oI (1 : Int32), oI (y1 &&& (255 : Int32))] [(.int (55296 : Int32)), (.int (y1 &&& (255 : Int32)))]))
  refine Done.step (fun _ => XS.icmpYes X6.here hx rfl (pc0 := 31) (pc' := 43) rfl (hb hby d12_31) rfl (XT.ii_lt_t (own_cp _ _ (by decide))) (by decide) (by decide)) ?_
  show Done _ p e below s _ _ (T6.setTop (mkF m 43 #[oR x1, oI (1048576 : Int32), oI (1 : Int32), oI ((0 : Int32) + (own_u8 (y0 &&& (255 : Int32)))), oI (1 : Int32), oI (y1 &&& (255 : Int32))] []))
  refine Done.step (fun _ => XS.iloadN X6.here hx rfl (hb hby d12_43) rfl) ?_
  show Done _ p e below s _ _ (T6.setTop (mkF m 44 #[oR x1, oI (1048576 : Int32), oI (1 : Int32), oI ((0 : Int32) + (own_u8 (y0 &&& (255 : Int32)))), oI (1 : Int32), oI (y1 &&& (255 : Int32))] [(.int (1 : Int32))]))
  refine Done.step (fun _ => XS.ifYes X6.here hx rfl (pc0 := 44) (pc' := 63) rfl (hb hby d12_44) rfl (XT.i0_ne_t (by decide)) (by decide) (by decide)) ?_
  show Done _ p e below s _ _ (T6.setTop (mkF m 63 #[oR x1, oI (1048576 : Int32), oI (1 : Int32), oI ((0 : Int32) + (own_u8 (y0 &&& (255 : Int32)))), oI (1 : Int32), oI (y1 &&& (255 : Int32))] []))
  refine Done.step (fun _ => XS.iloadN X6.here hx rfl (hb hby d12_63) rfl) ?_
  show Done _ p e below s _ _ (T6.setTop (mkF m 64 #[oR x1, oI (1048576 : Int32), oI (1 : Int32), oI ((0 : Int32) + (own_u8 (y0 &&& (255 : Int32)))), oI (1 : Int32), oI (y1 &&& (255 : Int32))] [(.int ((0 : Int32) + (own_u8 (y0 &&& (255 : Int32)))))]))
  refine Done.step (fun _ => XS.iload X6.here hx rfl (hb hby d12_64) rfl) ?_
  show Done _ p e below s _ _ (T6.setTop (mkF m 66 #[oR x1, oI (1048576 : Int32), oI (1 : Int32), oI ((0 : Int32) + (own_u8 (y0 &&& (255 : Int32)))), oI (1 : Int32), oI (y1 &&& (255 : Int32))] [(.int (y1 &&& (255 : Int32))), (.int ((0 : Int32) + (own_u8 (y0 &&& (255 : Int32)))))]))
  refine Done.callSP X6 hx hZ hown (wAt hw 89 rfl) (wAt hw 90 rfl) (wAt hw 54 rfl) (wAt hw 91 rfl) (by decide) (rmU8 l Z a0 hw [] (y1 &&& (255 : Int32)) h0 n0 Z0 (own_cp _ _ (by decide))) e6 (g := (mkF m 66 #[oR x1, oI (1048576 : Int32), oI (1 : Int32), oI ((0 : Int32) + (own_u8 (y0 &&& (255 : Int32)))), oI (1 : Int32), oI (y1 &&& (255 : Int32))] [(.int (y1 &&& (255 : Int32))), (.int ((0 : Int32) + (own_u8 (y0 &&& (255 : Int32)))))])) rfl (by rw [hml]; rfl) [(.int (y1 &&& (255 : Int32)))] [(.int ((0 : Int32) + (own_u8 (y0 &&& (255 : Int32)))))] 1 (lenOf pd_7 rfl) rfl rfl (by show 2 * 0 + _ ≤ _; exact Nat.le_of_eq rfl) (hb hby d12_66) (by decide) (by decide) (by decide) (by decide) rfl rfl ?_
  intro T7 X7 e7
  show Done _ p e below s _ _ (T7.setTop (mkF m 69 #[oR x1, oI (1048576 : Int32), oI (1 : Int32), oI ((0 : Int32) + (own_u8 (y0 &&& (255 : Int32)))), oI (1 : Int32), oI (y1 &&& (255 : Int32))] [(.int (own_u8 (y1 &&& (255 : Int32)))), (.int ((0 : Int32) + (own_u8 (y0 &&& (255 : Int32)))))]))
  refine Done.step (fun _ => XS.iadd X7.here hx rfl (hb hby d12_69) rfl) ?_
  show Done _ p e below s _ _ (T7.setTop (mkF m 70 #[oR x1, oI (1048576 : Int32), oI (1 : Int32), oI ((0 : Int32) + (own_u8 (y0 &&& (255 : Int32)))), oI (1 : Int32), oI (y1 &&& (255 : Int32))] [(.int (((0 : Int32) + (own_u8 (y0 &&& (255 : Int32)))) + (own_u8 (y1 &&& (255 : Int32)))))]))
  refine Done.step (fun _ => XS.istoreN X7.here hx rfl (hb hby d12_70) rfl (l' := #[oR x1, oI (1048576 : Int32), oI (1 : Int32), oI (((0 : Int32) + (own_u8 (y0 &&& (255 : Int32)))) + (own_u8 (y1 &&& (255 : Int32)))), oI (1 : Int32), oI (y1 &&& (255 : Int32))]) rfl) ?_
  show Done _ p e below s _ _ (T7.setTop (mkF m 71 #[oR x1, oI (1048576 : Int32), oI (1 : Int32), oI (((0 : Int32) + (own_u8 (y0 &&& (255 : Int32)))) + (own_u8 (y1 &&& (255 : Int32)))), oI (1 : Int32), oI (y1 &&& (255 : Int32))] []))
  refine Done.step (fun _ => XS.iload X7.here hx rfl (hb hby d12_71) rfl) ?_
  show Done _ p e below s _ _ (T7.setTop (mkF m 73 #[oR x1, oI (1048576 : Int32), oI (1 : Int32), oI (((0 : Int32) + (own_u8 (y0 &&& (255 : Int32)))) + (own_u8 (y1 &&& (255 : Int32)))), oI (1 : Int32), oI (y1 &&& (255 : Int32))] [(.int (1 : Int32))]))
  refine Done.step (fun _ => XS.iload X7.here hx rfl (hb hby d12_73) rfl) ?_
  show Done _ p e below s _ _ (T7.setTop (mkF m 75 #[oR x1, oI (1048576 : Int32), oI (1 : Int32), oI (((0 : Int32) + (own_u8 (y0 &&& (255 : Int32)))) + (own_u8 (y1 &&& (255 : Int32)))), oI (1 : Int32), oI (y1 &&& (255 : Int32))] [(.int (y1 &&& (255 : Int32))), (.int (1 : Int32))]))
  refine Done.callSP X7 hx hZ hown (wAt hw 92 rfl) (wAt hw 93 rfl) (wAt hw 94 rfl) (wAt hw 95 rfl) (by decide) (rmCC l Z a0 hw [] (y1 &&& (255 : Int32)) h0 n0 Z0 (own_cp _ _ (by decide))) e7 (g := (mkF m 75 #[oR x1, oI (1048576 : Int32), oI (1 : Int32), oI (((0 : Int32) + (own_u8 (y0 &&& (255 : Int32)))) + (own_u8 (y1 &&& (255 : Int32)))), oI (1 : Int32), oI (y1 &&& (255 : Int32))] [(.int (y1 &&& (255 : Int32))), (.int (1 : Int32))])) rfl (by rw [hml]; rfl) [(.int (y1 &&& (255 : Int32)))] [(.int (1 : Int32))] 1 (lenOf pd_7 rfl) rfl rfl (by show 2 * 0 + _ ≤ _; exact Nat.le_of_eq rfl) (hb hby d12_75) (by decide) (by decide) (by decide) (by decide) rfl rfl ?_
  intro T8 X8 e8
  show Done _ p e below s _ _ (T8.setTop (mkF m 78 #[oR x1, oI (1048576 : Int32), oI (1 : Int32), oI (((0 : Int32) + (own_u8 (y0 &&& (255 : Int32)))) + (own_u8 (y1 &&& (255 : Int32)))), oI (1 : Int32), oI (y1 &&& (255 : Int32))] [(.int (1 : Int32)), (.int (1 : Int32))]))
  refine Done.step (fun _ => XS.iadd X8.here hx rfl (hb hby d12_78) rfl) ?_
  show Done _ p e below s _ _ (T8.setTop (mkF m 79 #[oR x1, oI (1048576 : Int32), oI (1 : Int32), oI (((0 : Int32) + (own_u8 (y0 &&& (255 : Int32)))) + (own_u8 (y1 &&& (255 : Int32)))), oI (1 : Int32), oI (y1 &&& (255 : Int32))] [(.int (2 : Int32))]))
  refine Done.step (fun _ => XS.istore X8.here hx rfl (hb hby d12_79) rfl (l' := #[oR x1, oI (1048576 : Int32), oI (1 : Int32), oI (((0 : Int32) + (own_u8 (y0 &&& (255 : Int32)))) + (own_u8 (y1 &&& (255 : Int32)))), oI (2 : Int32), oI (y1 &&& (255 : Int32))]) rfl) ?_
  show Done _ p e below s _ _ (T8.setTop (mkF m 81 #[oR x1, oI (1048576 : Int32), oI (1 : Int32), oI (((0 : Int32) + (own_u8 (y0 &&& (255 : Int32)))) + (own_u8 (y1 &&& (255 : Int32)))), oI (2 : Int32), oI (y1 &&& (255 : Int32))] []))
  refine Done.step (fun _ => XS.goto X8.here hx rfl (pc0 := 81) (pc' := 5) rfl (hb hby d12_81) (by decide) (by decide)) ?_
  show Done _ p e below s _ _ (T8.setTop (mkF m 5 #[oR x1, oI (1048576 : Int32), oI (1 : Int32), oI (((0 : Int32) + (own_u8 (y0 &&& (255 : Int32)))) + (own_u8 (y1 &&& (255 : Int32)))), oI (2 : Int32), oI (y1 &&& (255 : Int32))] []))
  refine Done.step (fun _ => XS.iload X8.here hx rfl (hb hby d12_5) rfl) ?_
  show Done _ p e below s _ _ (T8.setTop (mkF m 7 #[oR x1, oI (1048576 : Int32), oI (1 : Int32), oI (((0 : Int32) + (own_u8 (y0 &&& (255 : Int32)))) + (own_u8 (y1 &&& (255 : Int32)))), oI (2 : Int32), oI (y1 &&& (255 : Int32))] [(.int (2 : Int32))]))
  refine Done.step (fun _ => XS.aloadN X8.here hx rfl (hb hby d12_7) rfl rfl) ?_
  show Done _ p e below s _ _ (T8.setTop (mkF m 8 #[oR x1, oI (1048576 : Int32), oI (1 : Int32), oI (((0 : Int32) + (own_u8 (y0 &&& (255 : Int32)))) + (own_u8 (y1 &&& (255 : Int32)))), oI (2 : Int32), oI (y1 &&& (255 : Int32))] [(.ref x1), (.int (2 : Int32))]))
  refine Done.callVP X8 hx hZ (C := "java/lang/String") hown (wAt hw 60 rfl) (wAt hw 61 rfl) (notFace_of_selects (args := #[]) (mvT hZ (wAt hw 63 rfl))) (wAt hw 63 rfl) (wAt hw 62 rfl) (wAt hw 11 rfl) (wAt hw 64 rfl) (by decide) (rmL2 l Z a0 hw [] x1 t1 kb1 y0 y1 z h0 n0 Z0 O0 SC hz E1 V1 C1 K1) e8 E1 (g := (mkF m 8 #[oR x1, oI (1048576 : Int32), oI (1 : Int32), oI (((0 : Int32) + (own_u8 (y0 &&& (255 : Int32)))) + (own_u8 (y1 &&& (255 : Int32)))), oI (2 : Int32), oI (y1 &&& (255 : Int32))] [(.ref x1), (.int (2 : Int32))])) rfl (by rw [hml]; rfl) [] [(.int (2 : Int32))] 1 (lenOf pd_3 rfl) rfl rfl (by show 2 * 0 + _ ≤ _; exact Nat.le_of_eq rfl) (hb hby d12_8) (by decide) (by decide) (by decide) (by decide) rfl rfl ?_
  intro T9 X9 e9
  show Done _ p e below s _ _ (T9.setTop (mkF m 11 #[oR x1, oI (1048576 : Int32), oI (1 : Int32), oI (((0 : Int32) + (own_u8 (y0 &&& (255 : Int32)))) + (own_u8 (y1 &&& (255 : Int32)))), oI (2 : Int32), oI (y1 &&& (255 : Int32))] [(.int (2 : Int32)), (.int (2 : Int32))]))
  refine Done.step (fun _ => XS.icmpYes X9.here hx rfl (pc0 := 11) (pc' := 84) rfl (hb hby d12_11) rfl (XT.ii_ge_t (by decide)) (by decide) (by decide)) ?_
  show Done _ p e below s _ _ (T9.setTop (mkF m 84 #[oR x1, oI (1048576 : Int32), oI (1 : Int32), oI (((0 : Int32) + (own_u8 (y0 &&& (255 : Int32)))) + (own_u8 (y1 &&& (255 : Int32)))), oI (2 : Int32), oI (y1 &&& (255 : Int32))] []))
  refine Done.step (fun _ => XS.iloadN X9.here hx rfl (hb hby d12_84) rfl) ?_
  show Done _ p e below s _ _ (T9.setTop (mkF m 85 #[oR x1, oI (1048576 : Int32), oI (1 : Int32), oI (((0 : Int32) + (own_u8 (y0 &&& (255 : Int32)))) + (own_u8 (y1 &&& (255 : Int32)))), oI (2 : Int32), oI (y1 &&& (255 : Int32))] [(.int (((0 : Int32) + (own_u8 (y0 &&& (255 : Int32)))) + (own_u8 (y1 &&& (255 : Int32)))))]))
  refine Done.step (fun _ => XS.iloadN X9.here hx rfl (hb hby d12_85) rfl) ?_
  show Done _ p e below s _ _ (T9.setTop (mkF m 86 #[oR x1, oI (1048576 : Int32), oI (1 : Int32), oI (((0 : Int32) + (own_u8 (y0 &&& (255 : Int32)))) + (own_u8 (y1 &&& (255 : Int32)))), oI (2 : Int32), oI (y1 &&& (255 : Int32))] [(.int (1048576 : Int32)), (.int (((0 : Int32) + (own_u8 (y0 &&& (255 : Int32)))) + (own_u8 (y1 &&& (255 : Int32)))))]))
  refine Done.step (fun _ => XS.icmpNo X9.here hx rfl (hb hby d12_86) rfl (XT.ii_gt_f (own_l2 _ _))) ?_
  show Done _ p e below s _ _ (T9.setTop (mkF m 89 #[oR x1, oI (1048576 : Int32), oI (1 : Int32), oI (((0 : Int32) + (own_u8 (y0 &&& (255 : Int32)))) + (own_u8 (y1 &&& (255 : Int32)))), oI (2 : Int32), oI (y1 &&& (255 : Int32))] []))
  refine Done.step (fun _ => XT.iconstV X9.here hx rfl (1 : Int32) (hb hby d12_89) (by decide)) ?_
  show Done _ p e below s _ _ (T9.setTop (mkF m 90 #[oR x1, oI (1048576 : Int32), oI (1 : Int32), oI (((0 : Int32) + (own_u8 (y0 &&& (255 : Int32)))) + (own_u8 (y1 &&& (255 : Int32)))), oI (2 : Int32), oI (y1 &&& (255 : Int32))] [(.int (1 : Int32))]))
  refine Done.step (fun _ => XS.goto X9.here hx rfl (pc0 := 90) (pc' := 94) rfl (hb hby d12_90) (by decide) (by decide)) ?_
  show Done _ p e below s _ _ (T9.setTop (mkF m 94 #[oR x1, oI (1048576 : Int32), oI (1 : Int32), oI (((0 : Int32) + (own_u8 (y0 &&& (255 : Int32)))) + (own_u8 (y1 &&& (255 : Int32)))), oI (2 : Int32), oI (y1 &&& (255 : Int32))] [(.int (1 : Int32))]))
  exact Done.retN (leavesF X9 hlk (by decide) (by decide)) X9 hx (t := .boolean) hret (by simp) (hb hby d12_94) ⟨rfl, e9, rfl⟩
set_option maxRecDepth 65536 in
set_option maxHeartbeats 40000000 in
theorem rmR2 (l : Launch) (Z : State) (a0 : Array Value) (hw : ∀ d ∈ tables_1, d.before a0 Z = true) (ws : List Jvm.Cond) (x1 t1 : Addr) (kb1 : ClassId) (y0 : Int32) (y1 : Int32) (z : Int32) (fm : Value) (h0 : Heap) (n0 : Nat) (Z0 : n0 ≤ h0.size) (O0 : Old Z n0 h0) (SC : Sta Z Z.heap "java/lang/String" "COMPACT_STRINGS" "Z" (.int z)) (hz : ¬ z = 0) (SF : Sta Z Z.heap "jdk/internal/util/Preconditions" "SIOOBE_FORMATTER" "Ljava/util/function/BiFunction;" fm) (rF : fm.isRef = true) (E1 : Exa Z h0 x1 "java/lang/String") (V1 : Fld Z h0 x1 "java/lang/String" "value" "[B" (.ref t1)) (C1 : Fld Z h0 x1 "java/lang/String" "coder" "B" (.int (0 : Int32))) (K1 : Arv Z h0 t1 kb1 .byte (2 : Int32) [(.int y0), (.int y1)] (.int 0)) :
    Ctr FrameEnd l Z (⟨"com/example/minho/minho/core/Limits", "requireValue", "(Ljava/lang/String;)Ljava/lang/String;"⟩ : MethodName) prog_23_method_5_code 1 (some (.object "java/lang/String")) ws ({ frames := 4, cells := 0, slots := 0, locals := 64 } : Room) #[(.ref x1)] h0 TrueV (PureQ (some (.ref x1)) h0) := by
  refine Ctr.intro (plainFor_of_name pn_com_example_minho_minho_core_Limits) (Ls := #[.val (.ref x1)]) (fun m => by first | (simp [entryFrame, mkF, argsToLocals, Value.category]; done) | rfl) ?_
  intro p e s m below meth c T0 hx hby hml hown hnm hret hlk hZ hV hsh e0 X0
  have N0 := Fr.nil n0
  show Done _ p e below s _ _ (T0.setTop (mkF m 0 #[oR x1] []))
  refine Done.step (fun _ => XS.aloadN X0.here hx rfl (hb hby d11_0) rfl rfl) ?_
  show Done _ p e below s _ _ (T0.setTop (mkF m 1 #[oR x1] [(.ref x1)]))
  refine Done.step (fun _ => XS.ifnullNo X0.here hx rfl (hb hby d11_1) rfl) ?_
  show Done _ p e below s _ _ (T0.setTop (mkF m 4 #[oR x1] []))
  refine Done.step (fun _ => XS.aloadN X0.here hx rfl (hb hby d11_4) rfl rfl) ?_
  show Done _ p e below s _ _ (T0.setTop (mkF m 5 #[oR x1] [(.ref x1)]))
  refine Done.step (fun _ => Stand.ldcI X0 hx hown (mvT hZ (wAt hw 56 rfl)) (g := (mkF m 5 #[oR x1] [(.ref x1)])) rfl (hb hby d11_5)) ?_
  show Done _ p e below s _ _ (T0.setTop (mkF m 7 #[oR x1] [(.int (1048576 : Int32)), (.ref x1)]))
  refine Done.step (fun _ => XT.iconstV X0.here hx rfl (1 : Int32) (hb hby d11_7) (by decide)) ?_
  show Done _ p e below s _ _ (T0.setTop (mkF m 8 #[oR x1] [(.int (1 : Int32)), (.int (1048576 : Int32)), (.ref x1)]))
  refine Done.callSP X0 hx hZ hown (wAt hw 57 rfl) (wAt hw 58 rfl) (wAt hw 54 rfl) (wAt hw 59 rfl) (by decide) (rmU2 l Z a0 hw [] x1 t1 kb1 y0 y1 z fm h0 n0 Z0 O0 SC hz SF rF E1 V1 C1 K1) e0 (g := (mkF m 8 #[oR x1] [(.int (1 : Int32)), (.int (1048576 : Int32)), (.ref x1)])) rfl (by rw [hml]; rfl) [(.ref x1), (.int (1048576 : Int32)), (.int (1 : Int32))] [] 0 (lenOf pd_4 rfl) rfl rfl (by show 2 * 0 + _ ≤ _; exact Nat.le_of_eq rfl) (hb hby d11_8) (by decide) (by decide) (by decide) (by decide) rfl rfl ?_
  intro T1 X1 e1
  show Done _ p e below s _ _ (T1.setTop (mkF m 11 #[oR x1] [(.int (1 : Int32))]))
  refine Done.step (fun _ => XS.ifYes X1.here hx rfl (pc0 := 11) (pc' := 24) rfl (hb hby d11_11) rfl (XT.i0_ne_t (by decide)) (by decide) (by decide)) ?_
  show Done _ p e below s _ _ (T1.setTop (mkF m 24 #[oR x1] []))
  refine Done.step (fun _ => XS.aloadN X1.here hx rfl (hb hby d11_24) rfl rfl) ?_
  show Done _ p e below s _ _ (T1.setTop (mkF m 25 #[oR x1] [(.ref x1)]))
  exact Done.retA (leavesF X1 hlk (by decide) (by decide)) X1 hx hret rfl rfl (hb hby d11_25) ⟨rfl, e1, rfl⟩
set_option maxRecDepth 65536 in
set_option maxHeartbeats 40000000 in
theorem rmL3 (l : Launch) (Z : State) (a0 : Array Value) (hw : ∀ d ∈ tables_1, d.before a0 Z = true) (ws : List Jvm.Cond) (x1 t1 : Addr) (kb1 : ClassId) (y0 : Int32) (y1 : Int32) (y2 : Int32) (z : Int32) (h0 : Heap) (n0 : Nat) (Z0 : n0 ≤ h0.size) (O0 : Old Z n0 h0) (SC : Sta Z Z.heap "java/lang/String" "COMPACT_STRINGS" "Z" (.int z)) (hz : ¬ z = 0) (E1 : Exa Z h0 x1 "java/lang/String") (V1 : Fld Z h0 x1 "java/lang/String" "value" "[B" (.ref t1)) (C1 : Fld Z h0 x1 "java/lang/String" "coder" "B" (.int (0 : Int32))) (K1 : Arv Z h0 t1 kb1 .byte (3 : Int32) [(.int y0), (.int y1), (.int y2)] (.int 0)) :
    Ctr FrameEnd l Z (⟨"java/lang/String", "length", "()I"⟩ : MethodName) jdk_42_method_54_code 1 (some .int) ws ({ frames := 1, cells := 0, slots := 0, locals := 13 } : Room) #[(.ref x1)] h0 TrueV (PureQ (some (.int (3 : Int32))) h0) := by
  refine Ctr.intro (plainFor_of_name pn_java_lang_String) (Ls := #[.val (.ref x1)]) (fun m => by first | (simp [entryFrame, mkF, argsToLocals, Value.category]; done) | rfl) ?_
  intro p e s m below meth c T0 hx hby hml hown hnm hret hlk hZ hV hsh e0 X0
  have N0 := Fr.nil n0
  show Done _ p e below s _ _ (T0.setTop (mkF m 0 #[oR x1] []))
  refine Done.step (fun _ => XS.aloadN X0.here hx rfl (hb hby d13_0) rfl rfl) ?_
  show Done _ p e below s _ _ (T0.setTop (mkF m 1 #[oR x1] [(.ref x1)]))
  obtain ⟨T1, X1, e1, st1⟩ := getF X0 hx hZ hown (host := "") (Or.inl (wAt hw 40 rfl)) Via.refl e0 V1 (g := (mkF m 1 #[oR x1] [(.ref x1)])) rfl rfl (hb hby d13_1)
  refine Done.step st1 ?_
  show Done _ p e below s _ _ (T1.setTop (mkF m 4 #[oR x1] [(.ref t1)]))
  obtain ⟨cl2, Ar2, q2, S2, Nn2, H2, G2⟩ := id K1
  refine Done.step (X1.arraylength hx (by first | exact Ar2.1 | (rw [e1]; exact Ar2.1)) (State.isArrayOf_alike hZ.alike Ar2.2.1) (g := (mkF m 4 #[oR x1] [(.ref t1)])) rfl rfl (hb hby d13_4)) ?_
  rw [len_of S2 Nn2]
  show Done _ p e below s _ _ (T1.setTop (mkF m 5 #[oR x1] [(.int (3 : Int32))]))
  refine Done.step (fun _ => XS.aloadN X1.here hx rfl (hb hby d13_5) rfl rfl) ?_
  show Done _ p e below s _ _ (T1.setTop (mkF m 6 #[oR x1] [(.ref x1), (.int (3 : Int32))]))
  refine Done.callVP X1 hx hZ (C := "java/lang/String") hown (wAt hw 65 rfl) (wAt hw 66 rfl) (notFace_of_selects (args := #[]) (mvT hZ (wAt hw 68 rfl))) (wAt hw 68 rfl) (wAt hw 67 rfl) (wAt hw 11 rfl) (wAt hw 69 rfl) (by decide) (rmCo l Z a0 hw [] x1 z h0 n0 Z0 O0 SC hz C1) e1 E1 (g := (mkF m 6 #[oR x1] [(.ref x1), (.int (3 : Int32))])) rfl (by rw [hml]; rfl) [] [(.int (3 : Int32))] 1 (lenOf pd_2 rfl) rfl rfl (by show 2 * 0 + _ ≤ _; exact Nat.le_of_eq rfl) (hb hby d13_6) (by decide) (by decide) (by decide) (by decide) rfl rfl ?_
  intro T3 X3 e3
  show Done _ p e below s _ _ (T3.setTop (mkF m 9 #[oR x1] [(.int (0 : Int32)), (.int (3 : Int32))]))
  refine Done.step (fun _ => XT.ishr X3.here hx rfl (hb hby d13_9) rfl) ?_
  show Done _ p e below s _ _ (T3.setTop (mkF m 10 #[oR x1] [(.int (3 : Int32))]))
  exact Done.retI (leavesF X3 hlk (by decide) (by decide)) X3 hx hret (hb hby d13_10) ⟨rfl, e3, rfl⟩
set_option maxRecDepth 65536 in
set_option maxHeartbeats 40000000 in
theorem rmC30 (l : Launch) (Z : State) (a0 : Array Value) (hw : ∀ d ∈ tables_1, d.before a0 Z = true) (ws : List Jvm.Cond) (x1 t1 : Addr) (kb1 : ClassId) (y0 : Int32) (y1 : Int32) (y2 : Int32) (z : Int32) (fm : Value) (h0 : Heap) (n0 : Nat) (Z0 : n0 ≤ h0.size) (O0 : Old Z n0 h0) (SC : Sta Z Z.heap "java/lang/String" "COMPACT_STRINGS" "Z" (.int z)) (hz : ¬ z = 0) (SF : Sta Z Z.heap "jdk/internal/util/Preconditions" "SIOOBE_FORMATTER" "Ljava/util/function/BiFunction;" fm) (rF : fm.isRef = true) (E1 : Exa Z h0 x1 "java/lang/String") (V1 : Fld Z h0 x1 "java/lang/String" "value" "[B" (.ref t1)) (C1 : Fld Z h0 x1 "java/lang/String" "coder" "B" (.int (0 : Int32))) (K1 : Arv Z h0 t1 kb1 .byte (3 : Int32) [(.int y0), (.int y1), (.int y2)] (.int 0)) :
    Ctr FrameEnd l Z (⟨"java/lang/String", "codePointAt", "(I)I"⟩ : MethodName) jdk_42_method_57_code 3 (some .int) ws ({ frames := 2, cells := 0, slots := 0, locals := 30 } : Room) #[(.ref x1), (.int (0 : Int32))] h0 TrueV (PureQ (some (.int (y0 &&& (255 : Int32)))) h0) := by
  refine Ctr.intro (plainFor_of_name pn_java_lang_String) (Ls := #[.val (.ref x1), .val (.int (0 : Int32)), .unset]) (fun m => by first | (simp [entryFrame, mkF, argsToLocals, Value.category]; done) | rfl) ?_
  intro p e s m below meth c T0 hx hby hml hown hnm hret hlk hZ hV hsh e0 X0
  have N0 := Fr.nil n0
  show Done _ p e below s _ _ (T0.setTop (mkF m 0 #[oR x1, oI (0 : Int32), .unset] []))
  refine Done.step (fun _ => XS.aloadN X0.here hx rfl (hb hby d15_0) rfl rfl) ?_
  show Done _ p e below s _ _ (T0.setTop (mkF m 1 #[oR x1, oI (0 : Int32), .unset] [(.ref x1)]))
  refine Done.callVP X0 hx hZ (C := "java/lang/String") hown (wAt hw 75 rfl) (wAt hw 76 rfl) (notFace_of_selects (args := #[]) (mvT hZ (wAt hw 78 rfl))) (wAt hw 78 rfl) (wAt hw 77 rfl) (wAt hw 11 rfl) (wAt hw 79 rfl) (by decide) (rmIL l Z a0 hw [] x1 z h0 n0 Z0 O0 SC hz C1) e0 E1 (g := (mkF m 1 #[oR x1, oI (0 : Int32), .unset] [(.ref x1)])) rfl (by rw [hml]; rfl) [] [] 0 (lenOf pd_5 rfl) rfl rfl (by show 2 * 0 + _ ≤ _; exact Nat.le_of_eq rfl) (hb hby d15_1) (by decide) (by decide) (by decide) (by decide) rfl rfl ?_
  intro T1 X1 e1
  show Done _ p e below s _ _ (T1.setTop (mkF m 4 #[oR x1, oI (0 : Int32), .unset] [(.int (1 : Int32))]))
  refine Done.step (fun _ => XS.ifNo X1.here hx rfl (hb hby d15_4) rfl (XT.i0_eq_f (by decide))) ?_
  show Done _ p e below s _ _ (T1.setTop (mkF m 7 #[oR x1, oI (0 : Int32), .unset] []))
  refine Done.step (fun _ => XS.iloadN X1.here hx rfl (hb hby d15_7) rfl) ?_
  show Done _ p e below s _ _ (T1.setTop (mkF m 8 #[oR x1, oI (0 : Int32), .unset] [(.int (0 : Int32))]))
  refine Done.step (fun _ => XS.aloadN X1.here hx rfl (hb hby d15_8) rfl rfl) ?_
  show Done _ p e below s _ _ (T1.setTop (mkF m 9 #[oR x1, oI (0 : Int32), .unset] [(.ref x1), (.int (0 : Int32))]))
  obtain ⟨T2, X2, e2, st2⟩ := getF X1 hx hZ hown (host := "") (Or.inl (wAt hw 40 rfl)) Via.refl e1 V1 (g := (mkF m 9 #[oR x1, oI (0 : Int32), .unset] [(.ref x1), (.int (0 : Int32))])) rfl rfl (hb hby d15_9)
  refine Done.step st2 ?_
  show Done _ p e below s _ _ (T2.setTop (mkF m 12 #[oR x1, oI (0 : Int32), .unset] [(.ref t1), (.int (0 : Int32))]))
  obtain ⟨cl3, Ar3, q3, S3, Nn3, H3, G3⟩ := id K1
  refine Done.step (X2.arraylength hx (by first | exact Ar3.1 | (rw [e2]; exact Ar3.1)) (State.isArrayOf_alike hZ.alike Ar3.2.1) (g := (mkF m 12 #[oR x1, oI (0 : Int32), .unset] [(.ref t1), (.int (0 : Int32))])) rfl rfl (hb hby d15_12)) ?_
  rw [len_of S3 Nn3]
  show Done _ p e below s _ _ (T2.setTop (mkF m 13 #[oR x1, oI (0 : Int32), .unset] [(.int (3 : Int32)), (.int (0 : Int32))]))
  refine Done.callSP X2 hx hZ hown (wAt hw 80 rfl) (wAt hw 81 rfl) (wAt hw 11 rfl) (wAt hw 82 rfl) (by decide) (rmCI l Z a0 hw [] (0 : Int32) (3 : Int32) z fm h0 n0 Z0 O0 SC hz SF rF (by decide) (by decide)) e2 (g := (mkF m 13 #[oR x1, oI (0 : Int32), .unset] [(.int (3 : Int32)), (.int (0 : Int32))])) rfl (by rw [hml]; rfl) [(.int (0 : Int32)), (.int (3 : Int32))] [] 0 (lenOf pd_6 rfl) rfl rfl (by show 2 * 0 + _ ≤ _; exact Nat.le_of_eq rfl) (hb hby d15_13) (by decide) (by decide) (by decide) (by decide) rfl rfl ?_
  intro T4 X4 e4
  show Done _ p e below s _ _ (T4.setTop (mkF m 16 #[oR x1, oI (0 : Int32), .unset] []))
  refine Done.step (fun _ => XS.aloadN X4.here hx rfl (hb hby d15_16) rfl rfl) ?_
  show Done _ p e below s _ _ (T4.setTop (mkF m 17 #[oR x1, oI (0 : Int32), .unset] [(.ref x1)]))
  obtain ⟨T5, X5, e5, st5⟩ := getF X4 hx hZ hown (host := "") (Or.inl (wAt hw 40 rfl)) Via.refl e4 V1 (g := (mkF m 17 #[oR x1, oI (0 : Int32), .unset] [(.ref x1)])) rfl rfl (hb hby d15_17)
  refine Done.step st5 ?_
  show Done _ p e below s _ _ (T5.setTop (mkF m 20 #[oR x1, oI (0 : Int32), .unset] [(.ref t1)]))
  refine Done.step (fun _ => XS.iloadN X5.here hx rfl (hb hby d15_20) rfl) ?_
  show Done _ p e below s _ _ (T5.setTop (mkF m 21 #[oR x1, oI (0 : Int32), .unset] [(.int (0 : Int32)), (.ref t1)]))
  obtain ⟨cl6, Ar6, q6, S6, Nn6, H6, G6⟩ := id K1
  have hin6 : ¬ ((0 : Int32) < 0 ∨ cl6.slots.size ≤ ((0 : Int32)).toNatClampNeg) := inb_of S6 ⟨by decide, by decide⟩
  have hat6 := Has.at H6 hin6 (v := (.int y0)) rfl
  refine Done.step (X5.baloadBytes hx (j := (0 : Int32)) (v := (.int y0)) (by first | exact Ar6.1 | (rw [e5]; exact Ar6.1)) (State.isArrayOf_alike hZ.alike Ar6.2.1) Ar6.2.2 hin6 hat6 (g := (mkF m 21 #[oR x1, oI (0 : Int32), .unset] [(.int (0 : Int32)), (.ref t1)])) rfl rfl (hb hby d15_21)) ?_
  show Done _ p e below s _ _ (T5.setTop (mkF m 22 #[oR x1, oI (0 : Int32), .unset] [(.int y0)]))
  refine Done.step (fun _ => XT.sipushV X5.here hx rfl (255 : Int32) (hb hby d15_22) (by decide)) ?_
  show Done _ p e below s _ _ (T5.setTop (mkF m 25 #[oR x1, oI (0 : Int32), .unset] [(.int (255 : Int32)), (.int y0)]))
  refine Done.step (fun _ => XS.iand X5.here hx rfl (hb hby d15_25) rfl) ?_
  show Done _ p e below s _ _ (T5.setTop (mkF m 26 #[oR x1, oI (0 : Int32), .unset] [(.int (y0 &&& (255 : Int32)))]))
  exact Done.retI (leavesF X5 hlk (by decide) (by decide)) X5 hx hret (hb hby d15_26) ⟨rfl, e5, rfl⟩
set_option maxRecDepth 65536 in
set_option maxHeartbeats 40000000 in
theorem rmC31 (l : Launch) (Z : State) (a0 : Array Value) (hw : ∀ d ∈ tables_1, d.before a0 Z = true) (ws : List Jvm.Cond) (x1 t1 : Addr) (kb1 : ClassId) (y0 : Int32) (y1 : Int32) (y2 : Int32) (z : Int32) (fm : Value) (h0 : Heap) (n0 : Nat) (Z0 : n0 ≤ h0.size) (O0 : Old Z n0 h0) (SC : Sta Z Z.heap "java/lang/String" "COMPACT_STRINGS" "Z" (.int z)) (hz : ¬ z = 0) (SF : Sta Z Z.heap "jdk/internal/util/Preconditions" "SIOOBE_FORMATTER" "Ljava/util/function/BiFunction;" fm) (rF : fm.isRef = true) (E1 : Exa Z h0 x1 "java/lang/String") (V1 : Fld Z h0 x1 "java/lang/String" "value" "[B" (.ref t1)) (C1 : Fld Z h0 x1 "java/lang/String" "coder" "B" (.int (0 : Int32))) (K1 : Arv Z h0 t1 kb1 .byte (3 : Int32) [(.int y0), (.int y1), (.int y2)] (.int 0)) :
    Ctr FrameEnd l Z (⟨"java/lang/String", "codePointAt", "(I)I"⟩ : MethodName) jdk_42_method_57_code 3 (some .int) ws ({ frames := 2, cells := 0, slots := 0, locals := 30 } : Room) #[(.ref x1), (.int (1 : Int32))] h0 TrueV (PureQ (some (.int (y1 &&& (255 : Int32)))) h0) := by
  refine Ctr.intro (plainFor_of_name pn_java_lang_String) (Ls := #[.val (.ref x1), .val (.int (1 : Int32)), .unset]) (fun m => by first | (simp [entryFrame, mkF, argsToLocals, Value.category]; done) | rfl) ?_
  intro p e s m below meth c T0 hx hby hml hown hnm hret hlk hZ hV hsh e0 X0
  have N0 := Fr.nil n0
  show Done _ p e below s _ _ (T0.setTop (mkF m 0 #[oR x1, oI (1 : Int32), .unset] []))
  refine Done.step (fun _ => XS.aloadN X0.here hx rfl (hb hby d15_0) rfl rfl) ?_
  show Done _ p e below s _ _ (T0.setTop (mkF m 1 #[oR x1, oI (1 : Int32), .unset] [(.ref x1)]))
  refine Done.callVP X0 hx hZ (C := "java/lang/String") hown (wAt hw 75 rfl) (wAt hw 76 rfl) (notFace_of_selects (args := #[]) (mvT hZ (wAt hw 78 rfl))) (wAt hw 78 rfl) (wAt hw 77 rfl) (wAt hw 11 rfl) (wAt hw 79 rfl) (by decide) (rmIL l Z a0 hw [] x1 z h0 n0 Z0 O0 SC hz C1) e0 E1 (g := (mkF m 1 #[oR x1, oI (1 : Int32), .unset] [(.ref x1)])) rfl (by rw [hml]; rfl) [] [] 0 (lenOf pd_5 rfl) rfl rfl (by show 2 * 0 + _ ≤ _; exact Nat.le_of_eq rfl) (hb hby d15_1) (by decide) (by decide) (by decide) (by decide) rfl rfl ?_
  intro T1 X1 e1
  show Done _ p e below s _ _ (T1.setTop (mkF m 4 #[oR x1, oI (1 : Int32), .unset] [(.int (1 : Int32))]))
  refine Done.step (fun _ => XS.ifNo X1.here hx rfl (hb hby d15_4) rfl (XT.i0_eq_f (by decide))) ?_
  show Done _ p e below s _ _ (T1.setTop (mkF m 7 #[oR x1, oI (1 : Int32), .unset] []))
  refine Done.step (fun _ => XS.iloadN X1.here hx rfl (hb hby d15_7) rfl) ?_
  show Done _ p e below s _ _ (T1.setTop (mkF m 8 #[oR x1, oI (1 : Int32), .unset] [(.int (1 : Int32))]))
  refine Done.step (fun _ => XS.aloadN X1.here hx rfl (hb hby d15_8) rfl rfl) ?_
  show Done _ p e below s _ _ (T1.setTop (mkF m 9 #[oR x1, oI (1 : Int32), .unset] [(.ref x1), (.int (1 : Int32))]))
  obtain ⟨T2, X2, e2, st2⟩ := getF X1 hx hZ hown (host := "") (Or.inl (wAt hw 40 rfl)) Via.refl e1 V1 (g := (mkF m 9 #[oR x1, oI (1 : Int32), .unset] [(.ref x1), (.int (1 : Int32))])) rfl rfl (hb hby d15_9)
  refine Done.step st2 ?_
  show Done _ p e below s _ _ (T2.setTop (mkF m 12 #[oR x1, oI (1 : Int32), .unset] [(.ref t1), (.int (1 : Int32))]))
  obtain ⟨cl3, Ar3, q3, S3, Nn3, H3, G3⟩ := id K1
  refine Done.step (X2.arraylength hx (by first | exact Ar3.1 | (rw [e2]; exact Ar3.1)) (State.isArrayOf_alike hZ.alike Ar3.2.1) (g := (mkF m 12 #[oR x1, oI (1 : Int32), .unset] [(.ref t1), (.int (1 : Int32))])) rfl rfl (hb hby d15_12)) ?_
  rw [len_of S3 Nn3]
  show Done _ p e below s _ _ (T2.setTop (mkF m 13 #[oR x1, oI (1 : Int32), .unset] [(.int (3 : Int32)), (.int (1 : Int32))]))
  refine Done.callSP X2 hx hZ hown (wAt hw 80 rfl) (wAt hw 81 rfl) (wAt hw 11 rfl) (wAt hw 82 rfl) (by decide) (rmCI l Z a0 hw [] (1 : Int32) (3 : Int32) z fm h0 n0 Z0 O0 SC hz SF rF (by decide) (by decide)) e2 (g := (mkF m 13 #[oR x1, oI (1 : Int32), .unset] [(.int (3 : Int32)), (.int (1 : Int32))])) rfl (by rw [hml]; rfl) [(.int (1 : Int32)), (.int (3 : Int32))] [] 0 (lenOf pd_6 rfl) rfl rfl (by show 2 * 0 + _ ≤ _; exact Nat.le_of_eq rfl) (hb hby d15_13) (by decide) (by decide) (by decide) (by decide) rfl rfl ?_
  intro T4 X4 e4
  show Done _ p e below s _ _ (T4.setTop (mkF m 16 #[oR x1, oI (1 : Int32), .unset] []))
  refine Done.step (fun _ => XS.aloadN X4.here hx rfl (hb hby d15_16) rfl rfl) ?_
  show Done _ p e below s _ _ (T4.setTop (mkF m 17 #[oR x1, oI (1 : Int32), .unset] [(.ref x1)]))
  obtain ⟨T5, X5, e5, st5⟩ := getF X4 hx hZ hown (host := "") (Or.inl (wAt hw 40 rfl)) Via.refl e4 V1 (g := (mkF m 17 #[oR x1, oI (1 : Int32), .unset] [(.ref x1)])) rfl rfl (hb hby d15_17)
  refine Done.step st5 ?_
  show Done _ p e below s _ _ (T5.setTop (mkF m 20 #[oR x1, oI (1 : Int32), .unset] [(.ref t1)]))
  refine Done.step (fun _ => XS.iloadN X5.here hx rfl (hb hby d15_20) rfl) ?_
  show Done _ p e below s _ _ (T5.setTop (mkF m 21 #[oR x1, oI (1 : Int32), .unset] [(.int (1 : Int32)), (.ref t1)]))
  obtain ⟨cl6, Ar6, q6, S6, Nn6, H6, G6⟩ := id K1
  have hin6 : ¬ ((1 : Int32) < 0 ∨ cl6.slots.size ≤ ((1 : Int32)).toNatClampNeg) := inb_of S6 ⟨by decide, by decide⟩
  have hat6 := Has.at H6 hin6 (v := (.int y1)) rfl
  refine Done.step (X5.baloadBytes hx (j := (1 : Int32)) (v := (.int y1)) (by first | exact Ar6.1 | (rw [e5]; exact Ar6.1)) (State.isArrayOf_alike hZ.alike Ar6.2.1) Ar6.2.2 hin6 hat6 (g := (mkF m 21 #[oR x1, oI (1 : Int32), .unset] [(.int (1 : Int32)), (.ref t1)])) rfl rfl (hb hby d15_21)) ?_
  show Done _ p e below s _ _ (T5.setTop (mkF m 22 #[oR x1, oI (1 : Int32), .unset] [(.int y1)]))
  refine Done.step (fun _ => XT.sipushV X5.here hx rfl (255 : Int32) (hb hby d15_22) (by decide)) ?_
  show Done _ p e below s _ _ (T5.setTop (mkF m 25 #[oR x1, oI (1 : Int32), .unset] [(.int (255 : Int32)), (.int y1)]))
  refine Done.step (fun _ => XS.iand X5.here hx rfl (hb hby d15_25) rfl) ?_
  show Done _ p e below s _ _ (T5.setTop (mkF m 26 #[oR x1, oI (1 : Int32), .unset] [(.int (y1 &&& (255 : Int32)))]))
  exact Done.retI (leavesF X5 hlk (by decide) (by decide)) X5 hx hret (hb hby d15_26) ⟨rfl, e5, rfl⟩
set_option maxRecDepth 65536 in
set_option maxHeartbeats 40000000 in
theorem rmC32 (l : Launch) (Z : State) (a0 : Array Value) (hw : ∀ d ∈ tables_1, d.before a0 Z = true) (ws : List Jvm.Cond) (x1 t1 : Addr) (kb1 : ClassId) (y0 : Int32) (y1 : Int32) (y2 : Int32) (z : Int32) (fm : Value) (h0 : Heap) (n0 : Nat) (Z0 : n0 ≤ h0.size) (O0 : Old Z n0 h0) (SC : Sta Z Z.heap "java/lang/String" "COMPACT_STRINGS" "Z" (.int z)) (hz : ¬ z = 0) (SF : Sta Z Z.heap "jdk/internal/util/Preconditions" "SIOOBE_FORMATTER" "Ljava/util/function/BiFunction;" fm) (rF : fm.isRef = true) (E1 : Exa Z h0 x1 "java/lang/String") (V1 : Fld Z h0 x1 "java/lang/String" "value" "[B" (.ref t1)) (C1 : Fld Z h0 x1 "java/lang/String" "coder" "B" (.int (0 : Int32))) (K1 : Arv Z h0 t1 kb1 .byte (3 : Int32) [(.int y0), (.int y1), (.int y2)] (.int 0)) :
    Ctr FrameEnd l Z (⟨"java/lang/String", "codePointAt", "(I)I"⟩ : MethodName) jdk_42_method_57_code 3 (some .int) ws ({ frames := 2, cells := 0, slots := 0, locals := 30 } : Room) #[(.ref x1), (.int (2 : Int32))] h0 TrueV (PureQ (some (.int (y2 &&& (255 : Int32)))) h0) := by
  refine Ctr.intro (plainFor_of_name pn_java_lang_String) (Ls := #[.val (.ref x1), .val (.int (2 : Int32)), .unset]) (fun m => by first | (simp [entryFrame, mkF, argsToLocals, Value.category]; done) | rfl) ?_
  intro p e s m below meth c T0 hx hby hml hown hnm hret hlk hZ hV hsh e0 X0
  have N0 := Fr.nil n0
  show Done _ p e below s _ _ (T0.setTop (mkF m 0 #[oR x1, oI (2 : Int32), .unset] []))
  refine Done.step (fun _ => XS.aloadN X0.here hx rfl (hb hby d15_0) rfl rfl) ?_
  show Done _ p e below s _ _ (T0.setTop (mkF m 1 #[oR x1, oI (2 : Int32), .unset] [(.ref x1)]))
  refine Done.callVP X0 hx hZ (C := "java/lang/String") hown (wAt hw 75 rfl) (wAt hw 76 rfl) (notFace_of_selects (args := #[]) (mvT hZ (wAt hw 78 rfl))) (wAt hw 78 rfl) (wAt hw 77 rfl) (wAt hw 11 rfl) (wAt hw 79 rfl) (by decide) (rmIL l Z a0 hw [] x1 z h0 n0 Z0 O0 SC hz C1) e0 E1 (g := (mkF m 1 #[oR x1, oI (2 : Int32), .unset] [(.ref x1)])) rfl (by rw [hml]; rfl) [] [] 0 (lenOf pd_5 rfl) rfl rfl (by show 2 * 0 + _ ≤ _; exact Nat.le_of_eq rfl) (hb hby d15_1) (by decide) (by decide) (by decide) (by decide) rfl rfl ?_
  intro T1 X1 e1
  show Done _ p e below s _ _ (T1.setTop (mkF m 4 #[oR x1, oI (2 : Int32), .unset] [(.int (1 : Int32))]))
  refine Done.step (fun _ => XS.ifNo X1.here hx rfl (hb hby d15_4) rfl (XT.i0_eq_f (by decide))) ?_
  show Done _ p e below s _ _ (T1.setTop (mkF m 7 #[oR x1, oI (2 : Int32), .unset] []))
  refine Done.step (fun _ => XS.iloadN X1.here hx rfl (hb hby d15_7) rfl) ?_
  show Done _ p e below s _ _ (T1.setTop (mkF m 8 #[oR x1, oI (2 : Int32), .unset] [(.int (2 : Int32))]))
  refine Done.step (fun _ => XS.aloadN X1.here hx rfl (hb hby d15_8) rfl rfl) ?_
  show Done _ p e below s _ _ (T1.setTop (mkF m 9 #[oR x1, oI (2 : Int32), .unset] [(.ref x1), (.int (2 : Int32))]))
  obtain ⟨T2, X2, e2, st2⟩ := getF X1 hx hZ hown (host := "") (Or.inl (wAt hw 40 rfl)) Via.refl e1 V1 (g := (mkF m 9 #[oR x1, oI (2 : Int32), .unset] [(.ref x1), (.int (2 : Int32))])) rfl rfl (hb hby d15_9)
  refine Done.step st2 ?_
  show Done _ p e below s _ _ (T2.setTop (mkF m 12 #[oR x1, oI (2 : Int32), .unset] [(.ref t1), (.int (2 : Int32))]))
  obtain ⟨cl3, Ar3, q3, S3, Nn3, H3, G3⟩ := id K1
  refine Done.step (X2.arraylength hx (by first | exact Ar3.1 | (rw [e2]; exact Ar3.1)) (State.isArrayOf_alike hZ.alike Ar3.2.1) (g := (mkF m 12 #[oR x1, oI (2 : Int32), .unset] [(.ref t1), (.int (2 : Int32))])) rfl rfl (hb hby d15_12)) ?_
  rw [len_of S3 Nn3]
  show Done _ p e below s _ _ (T2.setTop (mkF m 13 #[oR x1, oI (2 : Int32), .unset] [(.int (3 : Int32)), (.int (2 : Int32))]))
  refine Done.callSP X2 hx hZ hown (wAt hw 80 rfl) (wAt hw 81 rfl) (wAt hw 11 rfl) (wAt hw 82 rfl) (by decide) (rmCI l Z a0 hw [] (2 : Int32) (3 : Int32) z fm h0 n0 Z0 O0 SC hz SF rF (by decide) (by decide)) e2 (g := (mkF m 13 #[oR x1, oI (2 : Int32), .unset] [(.int (3 : Int32)), (.int (2 : Int32))])) rfl (by rw [hml]; rfl) [(.int (2 : Int32)), (.int (3 : Int32))] [] 0 (lenOf pd_6 rfl) rfl rfl (by show 2 * 0 + _ ≤ _; exact Nat.le_of_eq rfl) (hb hby d15_13) (by decide) (by decide) (by decide) (by decide) rfl rfl ?_
  intro T4 X4 e4
  show Done _ p e below s _ _ (T4.setTop (mkF m 16 #[oR x1, oI (2 : Int32), .unset] []))
  refine Done.step (fun _ => XS.aloadN X4.here hx rfl (hb hby d15_16) rfl rfl) ?_
  show Done _ p e below s _ _ (T4.setTop (mkF m 17 #[oR x1, oI (2 : Int32), .unset] [(.ref x1)]))
  obtain ⟨T5, X5, e5, st5⟩ := getF X4 hx hZ hown (host := "") (Or.inl (wAt hw 40 rfl)) Via.refl e4 V1 (g := (mkF m 17 #[oR x1, oI (2 : Int32), .unset] [(.ref x1)])) rfl rfl (hb hby d15_17)
  refine Done.step st5 ?_
  show Done _ p e below s _ _ (T5.setTop (mkF m 20 #[oR x1, oI (2 : Int32), .unset] [(.ref t1)]))
  refine Done.step (fun _ => XS.iloadN X5.here hx rfl (hb hby d15_20) rfl) ?_
  show Done _ p e below s _ _ (T5.setTop (mkF m 21 #[oR x1, oI (2 : Int32), .unset] [(.int (2 : Int32)), (.ref t1)]))
  obtain ⟨cl6, Ar6, q6, S6, Nn6, H6, G6⟩ := id K1
  have hin6 : ¬ ((2 : Int32) < 0 ∨ cl6.slots.size ≤ ((2 : Int32)).toNatClampNeg) := inb_of S6 ⟨by decide, by decide⟩
  have hat6 := Has.at H6 hin6 (v := (.int y2)) rfl
  refine Done.step (X5.baloadBytes hx (j := (2 : Int32)) (v := (.int y2)) (by first | exact Ar6.1 | (rw [e5]; exact Ar6.1)) (State.isArrayOf_alike hZ.alike Ar6.2.1) Ar6.2.2 hin6 hat6 (g := (mkF m 21 #[oR x1, oI (2 : Int32), .unset] [(.int (2 : Int32)), (.ref t1)])) rfl rfl (hb hby d15_21)) ?_
  show Done _ p e below s _ _ (T5.setTop (mkF m 22 #[oR x1, oI (2 : Int32), .unset] [(.int y2)]))
  refine Done.step (fun _ => XT.sipushV X5.here hx rfl (255 : Int32) (hb hby d15_22) (by decide)) ?_
  show Done _ p e below s _ _ (T5.setTop (mkF m 25 #[oR x1, oI (2 : Int32), .unset] [(.int (255 : Int32)), (.int y2)]))
  refine Done.step (fun _ => XS.iand X5.here hx rfl (hb hby d15_25) rfl) ?_
  show Done _ p e below s _ _ (T5.setTop (mkF m 26 #[oR x1, oI (2 : Int32), .unset] [(.int (y2 &&& (255 : Int32)))]))
  exact Done.retI (leavesF X5 hlk (by decide) (by decide)) X5 hx hret (hb hby d15_26) ⟨rfl, e5, rfl⟩
set_option maxRecDepth 65536 in
set_option maxHeartbeats 40000000 in
theorem rmU3 (l : Launch) (Z : State) (a0 : Array Value) (hw : ∀ d ∈ tables_1, d.before a0 Z = true) (ws : List Jvm.Cond) (x1 t1 : Addr) (kb1 : ClassId) (y0 : Int32) (y1 : Int32) (y2 : Int32) (z : Int32) (fm : Value) (h0 : Heap) (n0 : Nat) (Z0 : n0 ≤ h0.size) (O0 : Old Z n0 h0) (SC : Sta Z Z.heap "java/lang/String" "COMPACT_STRINGS" "Z" (.int z)) (hz : ¬ z = 0) (SF : Sta Z Z.heap "jdk/internal/util/Preconditions" "SIOOBE_FORMATTER" "Ljava/util/function/BiFunction;" fm) (rF : fm.isRef = true) (E1 : Exa Z h0 x1 "java/lang/String") (V1 : Fld Z h0 x1 "java/lang/String" "value" "[B" (.ref t1)) (C1 : Fld Z h0 x1 "java/lang/String" "coder" "B" (.int (0 : Int32))) (K1 : Arv Z h0 t1 kb1 .byte (3 : Int32) [(.int y0), (.int y1), (.int y2)] (.int 0)) :
    Ctr FrameEnd l Z (⟨"com/example/minho/minho/core/Limits", "isUtf8Within", "(Ljava/lang/String;IZ)Z"⟩ : MethodName) prog_23_method_9_code 6 (some .boolean) ws ({ frames := 3, cells := 0, slots := 0, locals := 46 } : Room) #[(.ref x1), (.int (1048576 : Int32)), (.int (1 : Int32))] h0 TrueV (PureQ (some (.int (1 : Int32))) h0) := by
  refine Ctr.intro (plainFor_of_name pn_com_example_minho_minho_core_Limits) (Ls := #[.val (.ref x1), .val (.int (1048576 : Int32)), .val (.int (1 : Int32)), .unset, .unset, .unset]) (fun m => by first | (simp [entryFrame, mkF, argsToLocals, Value.category]; done) | rfl) ?_
  intro p e s m below meth c T0 hx hby hml hown hnm hret hlk hZ hV hsh e0 X0
  have N0 := Fr.nil n0
  show Done _ p e below s _ _ (T0.setTop (mkF m 0 #[oR x1, oI (1048576 : Int32), oI (1 : Int32), .unset, .unset, .unset] []))
  refine Done.step (fun _ => XT.iconstV X0.here hx rfl (0 : Int32) (hb hby d12_0) (by decide)) ?_
  show Done _ p e below s _ _ (T0.setTop (mkF m 1 #[oR x1, oI (1048576 : Int32), oI (1 : Int32), .unset, .unset, .unset] [(.int (0 : Int32))]))
  refine Done.step (fun _ => XS.istoreN X0.here hx rfl (hb hby d12_1) rfl (l' := #[oR x1, oI (1048576 : Int32), oI (1 : Int32), oI (0 : Int32), .unset, .unset]) rfl) ?_
  show Done _ p e below s _ _ (T0.setTop (mkF m 2 #[oR x1, oI (1048576 : Int32), oI (1 : Int32), oI (0 : Int32), .unset, .unset] []))
  refine Done.step (fun _ => XT.iconstV X0.here hx rfl (0 : Int32) (hb hby d12_2) (by decide)) ?_
  show Done _ p e below s _ _ (T0.setTop (mkF m 3 #[oR x1, oI (1048576 : Int32), oI (1 : Int32), oI (0 : Int32), .unset, .unset] [(.int (0 : Int32))]))
  refine Done.step (fun _ => XS.istore X0.here hx rfl (hb hby d12_3) rfl (l' := #[oR x1, oI (1048576 : Int32), oI (1 : Int32), oI (0 : Int32), oI (0 : Int32), .unset]) rfl) ?_
  show Done _ p e below s _ _ (T0.setTop (mkF m 5 #[oR x1, oI (1048576 : Int32), oI (1 : Int32), oI (0 : Int32), oI (0 : Int32), .unset] []))
  refine Done.step (fun _ => XS.iload X0.here hx rfl (hb hby d12_5) rfl) ?_
  show Done _ p e below s _ _ (T0.setTop (mkF m 7 #[oR x1, oI (1048576 : Int32), oI (1 : Int32), oI (0 : Int32), oI (0 : Int32), .unset] [(.int (0 : Int32))]))
  refine Done.step (fun _ => XS.aloadN X0.here hx rfl (hb hby d12_7) rfl rfl) ?_
  show Done _ p e below s _ _ (T0.setTop (mkF m 8 #[oR x1, oI (1048576 : Int32), oI (1 : Int32), oI (0 : Int32), oI (0 : Int32), .unset] [(.ref x1), (.int (0 : Int32))]))
  refine Done.callVP X0 hx hZ (C := "java/lang/String") hown (wAt hw 60 rfl) (wAt hw 61 rfl) (notFace_of_selects (args := #[]) (mvT hZ (wAt hw 63 rfl))) (wAt hw 63 rfl) (wAt hw 62 rfl) (wAt hw 11 rfl) (wAt hw 64 rfl) (by decide) (rmL3 l Z a0 hw [] x1 t1 kb1 y0 y1 y2 z h0 n0 Z0 O0 SC hz E1 V1 C1 K1) e0 E1 (g := (mkF m 8 #[oR x1, oI (1048576 : Int32), oI (1 : Int32), oI (0 : Int32), oI (0 : Int32), .unset] [(.ref x1), (.int (0 : Int32))])) rfl (by rw [hml]; rfl) [] [(.int (0 : Int32))] 1 (lenOf pd_3 rfl) rfl rfl (by show 2 * 0 + _ ≤ _; exact Nat.le_of_eq rfl) (hb hby d12_8) (by decide) (by decide) (by decide) (by decide) rfl rfl ?_
  intro T1 X1 e1
  show Done _ p e below s _ _ (T1.setTop (mkF m 11 #[oR x1, oI (1048576 : Int32), oI (1 : Int32), oI (0 : Int32), oI (0 : Int32), .unset] [(.int (3 : Int32)), (.int (0 : Int32))]))
  refine Done.step (fun _ => XS.icmpNo X1.here hx rfl (hb hby d12_11) rfl (XT.ii_ge_f (by decide))) ?_
  show Done _ p e below s _ _ (T1.setTop (mkF m 14 #[oR x1, oI (1048576 : Int32), oI (1 : Int32), oI (0 : Int32), oI (0 : Int32), .unset] []))
  refine Done.step (fun _ => XS.iloadN X1.here hx rfl (hb hby d12_14) rfl) ?_
  show Done _ p e below s _ _ (T1.setTop (mkF m 15 #[oR x1, oI (1048576 : Int32), oI (1 : Int32), oI (0 : Int32), oI (0 : Int32), .unset] [(.int (0 : Int32))]))
  refine Done.step (fun _ => XS.iloadN X1.here hx rfl (hb hby d12_15) rfl) ?_
  show Done _ p e below s _ _ (T1.setTop (mkF m 16 #[oR x1, oI (1048576 : Int32), oI (1 : Int32), oI (0 : Int32), oI (0 : Int32), .unset] [(.int (1048576 : Int32)), (.int (0 : Int32))]))
  refine Done.step (fun _ => XS.icmpNo X1.here hx rfl (hb hby d12_16) rfl (XT.ii_gt_f (by decide))) ?_
  show Done _ p e below s _ _ (T1.setTop (mkF m 19 #[oR x1, oI (1048576 : Int32), oI (1 : Int32), oI (0 : Int32), oI (0 : Int32), .unset] []))
  refine Done.step (fun _ => XS.aloadN X1.here hx rfl (hb hby d12_19) rfl rfl) ?_
  show Done _ p e below s _ _ (T1.setTop (mkF m 20 #[oR x1, oI (1048576 : Int32), oI (1 : Int32), oI (0 : Int32), oI (0 : Int32), .unset] [(.ref x1)]))
  refine Done.step (fun _ => XS.iload X1.here hx rfl (hb hby d12_20) rfl) ?_
  show Done _ p e below s _ _ (T1.setTop (mkF m 22 #[oR x1, oI (1048576 : Int32), oI (1 : Int32), oI (0 : Int32), oI (0 : Int32), .unset] [(.int (0 : Int32)), (.ref x1)]))
  refine Done.callVP X1 hx hZ (C := "java/lang/String") hown (wAt hw 70 rfl) (wAt hw 71 rfl) (notFace_of_selects (args := #[]) (mvT hZ (wAt hw 73 rfl))) (wAt hw 73 rfl) (wAt hw 72 rfl) (wAt hw 11 rfl) (wAt hw 74 rfl) (by decide) (rmC30 l Z a0 hw [] x1 t1 kb1 y0 y1 y2 z fm h0 n0 Z0 O0 SC hz SF rF E1 V1 C1 K1) e1 E1 (g := (mkF m 22 #[oR x1, oI (1048576 : Int32), oI (1 : Int32), oI (0 : Int32), oI (0 : Int32), .unset] [(.int (0 : Int32)), (.ref x1)])) rfl (by rw [hml]; rfl) [(.int (0 : Int32))] [] 0 (lenOf pd_7 rfl) rfl rfl (by show 2 * 0 + _ ≤ _; exact Nat.le_of_eq rfl) (hb hby d12_22) (by decide) (by decide) (by decide) (by decide) rfl rfl ?_
  intro T2 X2 e2
  show Done _ p e below s _ _ (T2.setTop (mkF m 25 #[oR x1, oI (1048576 : Int32), oI (1 : Int32), oI (0 : Int32), oI (0 : Int32), .unset] [(.int (y0 &&& (255 : Int32)))]))
  refine Done.step (fun _ => XS.istore X2.here hx rfl (hb hby d12_25) rfl (l' := #[oR x1, oI (1048576 : Int32), oI (1 : Int32), oI (0 : Int32), oI (0 : Int32), oI (y0 &&& (255 : Int32))]) rfl) ?_
  show Done _ p e below s _ _ (T2.setTop (mkF m 27 #[oR x1, oI (1048576 : Int32), oI (1 : Int32), oI (0 : Int32), oI (0 : Int32), oI (y0 &&& (255 : Int32))] []))
  refine Done.step (fun _ => XS.iload X2.here hx rfl (hb hby d12_27) rfl) ?_
  show Done _ p e below s _ _ (T2.setTop (mkF m 29 #[oR x1, oI (1048576 : Int32), oI (1 : Int32), oI (0 : Int32), oI (0 : Int32), oI (y0 &&& (255 : Int32))] [(.int (y0 &&& (255 : Int32)))]))
  refine Done.step (fun _ => Stand.ldcI X2 hx hown (mvT hZ (wAt hw 88 rfl)) (g := (mkF m 29 #[oR x1, oI (1048576 : Int32), oI (1 : Int32), oI (0 : Int32), oI (0 : Int32), oI (y0 &&& (255 : Int32))] [(.int (y0 &&& (255 : Int32)))])) rfl (hb hby d12_29)) ?_
  show Done _ p e below s _ _ (T2.setTop (mkF m 31 #[oR x1, oI (1048576 : Int32), oI (1 : Int32), oI (0 : Int32), oI (0 : Int32), oI (y0 &&& (255 : Int32))] [(.int (55296 : Int32)), (.int (y0 &&& (255 : Int32)))]))
  refine Done.step (fun _ => XS.icmpYes X2.here hx rfl (pc0 := 31) (pc' := 43) rfl (hb hby d12_31) rfl (XT.ii_lt_t (own_cp _ _ (by decide))) (by decide) (by decide)) ?_
  show Done _ p e below s _ _ (T2.setTop (mkF m 43 #[oR x1, oI (1048576 : Int32), oI (1 : Int32), oI (0 : Int32), oI (0 : Int32), oI (y0 &&& (255 : Int32))] []))
  refine Done.step (fun _ => XS.iloadN X2.here hx rfl (hb hby d12_43) rfl) ?_
  show Done _ p e below s _ _ (T2.setTop (mkF m 44 #[oR x1, oI (1048576 : Int32), oI (1 : Int32), oI (0 : Int32), oI (0 : Int32), oI (y0 &&& (255 : Int32))] [(.int (1 : Int32))]))
  refine Done.step (fun _ => XS.ifYes X2.here hx rfl (pc0 := 44) (pc' := 63) rfl (hb hby d12_44) rfl (XT.i0_ne_t (by decide)) (by decide) (by decide)) ?_
  show Done _ p e below s _ _ (T2.setTop (mkF m 63 #[oR x1, oI (1048576 : Int32), oI (1 : Int32), oI (0 : Int32), oI (0 : Int32), oI (y0 &&& (255 : Int32))] []))
  refine Done.step (fun _ => XS.iloadN X2.here hx rfl (hb hby d12_63) rfl) ?_
  show Done _ p e below s _ _ (T2.setTop (mkF m 64 #[oR x1, oI (1048576 : Int32), oI (1 : Int32), oI (0 : Int32), oI (0 : Int32), oI (y0 &&& (255 : Int32))] [(.int (0 : Int32))]))
  refine Done.step (fun _ => XS.iload X2.here hx rfl (hb hby d12_64) rfl) ?_
  show Done _ p e below s _ _ (T2.setTop (mkF m 66 #[oR x1, oI (1048576 : Int32), oI (1 : Int32), oI (0 : Int32), oI (0 : Int32), oI (y0 &&& (255 : Int32))] [(.int (y0 &&& (255 : Int32))), (.int (0 : Int32))]))
  refine Done.callSP X2 hx hZ hown (wAt hw 89 rfl) (wAt hw 90 rfl) (wAt hw 54 rfl) (wAt hw 91 rfl) (by decide) (rmU8 l Z a0 hw [] (y0 &&& (255 : Int32)) h0 n0 Z0 (own_cp _ _ (by decide))) e2 (g := (mkF m 66 #[oR x1, oI (1048576 : Int32), oI (1 : Int32), oI (0 : Int32), oI (0 : Int32), oI (y0 &&& (255 : Int32))] [(.int (y0 &&& (255 : Int32))), (.int (0 : Int32))])) rfl (by rw [hml]; rfl) [(.int (y0 &&& (255 : Int32)))] [(.int (0 : Int32))] 1 (lenOf pd_7 rfl) rfl rfl (by show 2 * 0 + _ ≤ _; exact Nat.le_of_eq rfl) (hb hby d12_66) (by decide) (by decide) (by decide) (by decide) rfl rfl ?_
  intro T3 X3 e3
  show Done _ p e below s _ _ (T3.setTop (mkF m 69 #[oR x1, oI (1048576 : Int32), oI (1 : Int32), oI (0 : Int32), oI (0 : Int32), oI (y0 &&& (255 : Int32))] [(.int (own_u8 (y0 &&& (255 : Int32)))), (.int (0 : Int32))]))
  refine Done.step (fun _ => XS.iadd X3.here hx rfl (hb hby d12_69) rfl) ?_
  show Done _ p e below s _ _ (T3.setTop (mkF m 70 #[oR x1, oI (1048576 : Int32), oI (1 : Int32), oI (0 : Int32), oI (0 : Int32), oI (y0 &&& (255 : Int32))] [(.int ((0 : Int32) + (own_u8 (y0 &&& (255 : Int32)))))]))
  refine Done.step (fun _ => XS.istoreN X3.here hx rfl (hb hby d12_70) rfl (l' := #[oR x1, oI (1048576 : Int32), oI (1 : Int32), oI ((0 : Int32) + (own_u8 (y0 &&& (255 : Int32)))), oI (0 : Int32), oI (y0 &&& (255 : Int32))]) rfl) ?_
  show Done _ p e below s _ _ (T3.setTop (mkF m 71 #[oR x1, oI (1048576 : Int32), oI (1 : Int32), oI ((0 : Int32) + (own_u8 (y0 &&& (255 : Int32)))), oI (0 : Int32), oI (y0 &&& (255 : Int32))] []))
  refine Done.step (fun _ => XS.iload X3.here hx rfl (hb hby d12_71) rfl) ?_
  show Done _ p e below s _ _ (T3.setTop (mkF m 73 #[oR x1, oI (1048576 : Int32), oI (1 : Int32), oI ((0 : Int32) + (own_u8 (y0 &&& (255 : Int32)))), oI (0 : Int32), oI (y0 &&& (255 : Int32))] [(.int (0 : Int32))]))
  refine Done.step (fun _ => XS.iload X3.here hx rfl (hb hby d12_73) rfl) ?_
  show Done _ p e below s _ _ (T3.setTop (mkF m 75 #[oR x1, oI (1048576 : Int32), oI (1 : Int32), oI ((0 : Int32) + (own_u8 (y0 &&& (255 : Int32)))), oI (0 : Int32), oI (y0 &&& (255 : Int32))] [(.int (y0 &&& (255 : Int32))), (.int (0 : Int32))]))
  refine Done.callSP X3 hx hZ hown (wAt hw 92 rfl) (wAt hw 93 rfl) (wAt hw 94 rfl) (wAt hw 95 rfl) (by decide) (rmCC l Z a0 hw [] (y0 &&& (255 : Int32)) h0 n0 Z0 (own_cp _ _ (by decide))) e3 (g := (mkF m 75 #[oR x1, oI (1048576 : Int32), oI (1 : Int32), oI ((0 : Int32) + (own_u8 (y0 &&& (255 : Int32)))), oI (0 : Int32), oI (y0 &&& (255 : Int32))] [(.int (y0 &&& (255 : Int32))), (.int (0 : Int32))])) rfl (by rw [hml]; rfl) [(.int (y0 &&& (255 : Int32)))] [(.int (0 : Int32))] 1 (lenOf pd_7 rfl) rfl rfl (by show 2 * 0 + _ ≤ _; exact Nat.le_of_eq rfl) (hb hby d12_75) (by decide) (by decide) (by decide) (by decide) rfl rfl ?_
  intro T4 X4 e4
  show Done _ p e below s _ _ (T4.setTop (mkF m 78 #[oR x1, oI (1048576 : Int32), oI (1 : Int32), oI ((0 : Int32) + (own_u8 (y0 &&& (255 : Int32)))), oI (0 : Int32), oI (y0 &&& (255 : Int32))] [(.int (1 : Int32)), (.int (0 : Int32))]))
  refine Done.step (fun _ => XS.iadd X4.here hx rfl (hb hby d12_78) rfl) ?_
  show Done _ p e below s _ _ (T4.setTop (mkF m 79 #[oR x1, oI (1048576 : Int32), oI (1 : Int32), oI ((0 : Int32) + (own_u8 (y0 &&& (255 : Int32)))), oI (0 : Int32), oI (y0 &&& (255 : Int32))] [(.int (1 : Int32))]))
  refine Done.step (fun _ => XS.istore X4.here hx rfl (hb hby d12_79) rfl (l' := #[oR x1, oI (1048576 : Int32), oI (1 : Int32), oI ((0 : Int32) + (own_u8 (y0 &&& (255 : Int32)))), oI (1 : Int32), oI (y0 &&& (255 : Int32))]) rfl) ?_
  show Done _ p e below s _ _ (T4.setTop (mkF m 81 #[oR x1, oI (1048576 : Int32), oI (1 : Int32), oI ((0 : Int32) + (own_u8 (y0 &&& (255 : Int32)))), oI (1 : Int32), oI (y0 &&& (255 : Int32))] []))
  refine Done.step (fun _ => XS.goto X4.here hx rfl (pc0 := 81) (pc' := 5) rfl (hb hby d12_81) (by decide) (by decide)) ?_
  show Done _ p e below s _ _ (T4.setTop (mkF m 5 #[oR x1, oI (1048576 : Int32), oI (1 : Int32), oI ((0 : Int32) + (own_u8 (y0 &&& (255 : Int32)))), oI (1 : Int32), oI (y0 &&& (255 : Int32))] []))
  refine Done.step (fun _ => XS.iload X4.here hx rfl (hb hby d12_5) rfl) ?_
  show Done _ p e below s _ _ (T4.setTop (mkF m 7 #[oR x1, oI (1048576 : Int32), oI (1 : Int32), oI ((0 : Int32) + (own_u8 (y0 &&& (255 : Int32)))), oI (1 : Int32), oI (y0 &&& (255 : Int32))] [(.int (1 : Int32))]))
  refine Done.step (fun _ => XS.aloadN X4.here hx rfl (hb hby d12_7) rfl rfl) ?_
  show Done _ p e below s _ _ (T4.setTop (mkF m 8 #[oR x1, oI (1048576 : Int32), oI (1 : Int32), oI ((0 : Int32) + (own_u8 (y0 &&& (255 : Int32)))), oI (1 : Int32), oI (y0 &&& (255 : Int32))] [(.ref x1), (.int (1 : Int32))]))
  refine Done.callVP X4 hx hZ (C := "java/lang/String") hown (wAt hw 60 rfl) (wAt hw 61 rfl) (notFace_of_selects (args := #[]) (mvT hZ (wAt hw 63 rfl))) (wAt hw 63 rfl) (wAt hw 62 rfl) (wAt hw 11 rfl) (wAt hw 64 rfl) (by decide) (rmL3 l Z a0 hw [] x1 t1 kb1 y0 y1 y2 z h0 n0 Z0 O0 SC hz E1 V1 C1 K1) e4 E1 (g := (mkF m 8 #[oR x1, oI (1048576 : Int32), oI (1 : Int32), oI ((0 : Int32) + (own_u8 (y0 &&& (255 : Int32)))), oI (1 : Int32), oI (y0 &&& (255 : Int32))] [(.ref x1), (.int (1 : Int32))])) rfl (by rw [hml]; rfl) [] [(.int (1 : Int32))] 1 (lenOf pd_3 rfl) rfl rfl (by show 2 * 0 + _ ≤ _; exact Nat.le_of_eq rfl) (hb hby d12_8) (by decide) (by decide) (by decide) (by decide) rfl rfl ?_
  intro T5 X5 e5
  show Done _ p e below s _ _ (T5.setTop (mkF m 11 #[oR x1, oI (1048576 : Int32), oI (1 : Int32), oI ((0 : Int32) + (own_u8 (y0 &&& (255 : Int32)))), oI (1 : Int32), oI (y0 &&& (255 : Int32))] [(.int (3 : Int32)), (.int (1 : Int32))]))
  refine Done.step (fun _ => XS.icmpNo X5.here hx rfl (hb hby d12_11) rfl (XT.ii_ge_f (by decide))) ?_
  show Done _ p e below s _ _ (T5.setTop (mkF m 14 #[oR x1, oI (1048576 : Int32), oI (1 : Int32), oI ((0 : Int32) + (own_u8 (y0 &&& (255 : Int32)))), oI (1 : Int32), oI (y0 &&& (255 : Int32))] []))
  refine Done.step (fun _ => XS.iloadN X5.here hx rfl (hb hby d12_14) rfl) ?_
  show Done _ p e below s _ _ (T5.setTop (mkF m 15 #[oR x1, oI (1048576 : Int32), oI (1 : Int32), oI ((0 : Int32) + (own_u8 (y0 &&& (255 : Int32)))), oI (1 : Int32), oI (y0 &&& (255 : Int32))] [(.int ((0 : Int32) + (own_u8 (y0 &&& (255 : Int32)))))]))
  refine Done.step (fun _ => XS.iloadN X5.here hx rfl (hb hby d12_15) rfl) ?_
  show Done _ p e below s _ _ (T5.setTop (mkF m 16 #[oR x1, oI (1048576 : Int32), oI (1 : Int32), oI ((0 : Int32) + (own_u8 (y0 &&& (255 : Int32)))), oI (1 : Int32), oI (y0 &&& (255 : Int32))] [(.int (1048576 : Int32)), (.int ((0 : Int32) + (own_u8 (y0 &&& (255 : Int32)))))]))
  refine Done.step (fun _ => XS.icmpNo X5.here hx rfl (hb hby d12_16) rfl (XT.ii_gt_f (own_l1 _))) ?_
  show Done _ p e below s _ _ (T5.setTop (mkF m 19 #[oR x1, oI (1048576 : Int32), oI (1 : Int32), oI ((0 : Int32) + (own_u8 (y0 &&& (255 : Int32)))), oI (1 : Int32), oI (y0 &&& (255 : Int32))] []))
  refine Done.step (fun _ => XS.aloadN X5.here hx rfl (hb hby d12_19) rfl rfl) ?_
  show Done _ p e below s _ _ (T5.setTop (mkF m 20 #[oR x1, oI (1048576 : Int32), oI (1 : Int32), oI ((0 : Int32) + (own_u8 (y0 &&& (255 : Int32)))), oI (1 : Int32), oI (y0 &&& (255 : Int32))] [(.ref x1)]))
  refine Done.step (fun _ => XS.iload X5.here hx rfl (hb hby d12_20) rfl) ?_
  show Done _ p e below s _ _ (T5.setTop (mkF m 22 #[oR x1, oI (1048576 : Int32), oI (1 : Int32), oI ((0 : Int32) + (own_u8 (y0 &&& (255 : Int32)))), oI (1 : Int32), oI (y0 &&& (255 : Int32))] [(.int (1 : Int32)), (.ref x1)]))
  refine Done.callVP X5 hx hZ (C := "java/lang/String") hown (wAt hw 70 rfl) (wAt hw 71 rfl) (notFace_of_selects (args := #[]) (mvT hZ (wAt hw 73 rfl))) (wAt hw 73 rfl) (wAt hw 72 rfl) (wAt hw 11 rfl) (wAt hw 74 rfl) (by decide) (rmC31 l Z a0 hw [] x1 t1 kb1 y0 y1 y2 z fm h0 n0 Z0 O0 SC hz SF rF E1 V1 C1 K1) e5 E1 (g := (mkF m 22 #[oR x1, oI (1048576 : Int32), oI (1 : Int32), oI ((0 : Int32) + (own_u8 (y0 &&& (255 : Int32)))), oI (1 : Int32), oI (y0 &&& (255 : Int32))] [(.int (1 : Int32)), (.ref x1)])) rfl (by rw [hml]; rfl) [(.int (1 : Int32))] [] 0 (lenOf pd_7 rfl) rfl rfl (by show 2 * 0 + _ ≤ _; exact Nat.le_of_eq rfl) (hb hby d12_22) (by decide) (by decide) (by decide) (by decide) rfl rfl ?_
  intro T6 X6 e6
  show Done _ p e below s _ _ (T6.setTop (mkF m 25 #[oR x1, oI (1048576 : Int32), oI (1 : Int32), oI ((0 : Int32) + (own_u8 (y0 &&& (255 : Int32)))), oI (1 : Int32), oI (y0 &&& (255 : Int32))] [(.int (y1 &&& (255 : Int32)))]))
  refine Done.step (fun _ => XS.istore X6.here hx rfl (hb hby d12_25) rfl (l' := #[oR x1, oI (1048576 : Int32), oI (1 : Int32), oI ((0 : Int32) + (own_u8 (y0 &&& (255 : Int32)))), oI (1 : Int32), oI (y1 &&& (255 : Int32))]) rfl) ?_
  show Done _ p e below s _ _ (T6.setTop (mkF m 27 #[oR x1, oI (1048576 : Int32), oI (1 : Int32), oI ((0 : Int32) + (own_u8 (y0 &&& (255 : Int32)))), oI (1 : Int32), oI (y1 &&& (255 : Int32))] []))
  refine Done.step (fun _ => XS.iload X6.here hx rfl (hb hby d12_27) rfl) ?_
  show Done _ p e below s _ _ (T6.setTop (mkF m 29 #[oR x1, oI (1048576 : Int32), oI (1 : Int32), oI ((0 : Int32) + (own_u8 (y0 &&& (255 : Int32)))), oI (1 : Int32), oI (y1 &&& (255 : Int32))] [(.int (y1 &&& (255 : Int32)))]))
  refine Done.step (fun _ => Stand.ldcI X6 hx hown (mvT hZ (wAt hw 88 rfl)) (g := (mkF m 29 #[oR x1, oI (1048576 : Int32), oI (1 : Int32), oI ((0 : Int32) + (own_u8 (y0 &&& (255 : Int32)))), oI (1 : Int32), oI (y1 &&& (255 : Int32))] [(.int (y1 &&& (255 : Int32)))])) rfl (hb hby d12_29)) ?_
  show Done _ p e below s _ _ (T6.setTop (mkF m 31 #[oR x1, oI (1048576 : Int32), oI (1 : Int32), oI ((0 : Int32) + (own_u8 (y0 &&& (255 : Int32)))), oI (1 : Int32), oI (y1 &&& (255 : Int32))] [(.int (55296 : Int32)), (.int (y1 &&& (255 : Int32)))]))
  refine Done.step (fun _ => XS.icmpYes X6.here hx rfl (pc0 := 31) (pc' := 43) rfl (hb hby d12_31) rfl (XT.ii_lt_t (own_cp _ _ (by decide))) (by decide) (by decide)) ?_
  show Done _ p e below s _ _ (T6.setTop (mkF m 43 #[oR x1, oI (1048576 : Int32), oI (1 : Int32), oI ((0 : Int32) + (own_u8 (y0 &&& (255 : Int32)))), oI (1 : Int32), oI (y1 &&& (255 : Int32))] []))
  refine Done.step (fun _ => XS.iloadN X6.here hx rfl (hb hby d12_43) rfl) ?_
  show Done _ p e below s _ _ (T6.setTop (mkF m 44 #[oR x1, oI (1048576 : Int32), oI (1 : Int32), oI ((0 : Int32) + (own_u8 (y0 &&& (255 : Int32)))), oI (1 : Int32), oI (y1 &&& (255 : Int32))] [(.int (1 : Int32))]))
  refine Done.step (fun _ => XS.ifYes X6.here hx rfl (pc0 := 44) (pc' := 63) rfl (hb hby d12_44) rfl (XT.i0_ne_t (by decide)) (by decide) (by decide)) ?_
  show Done _ p e below s _ _ (T6.setTop (mkF m 63 #[oR x1, oI (1048576 : Int32), oI (1 : Int32), oI ((0 : Int32) + (own_u8 (y0 &&& (255 : Int32)))), oI (1 : Int32), oI (y1 &&& (255 : Int32))] []))
  refine Done.step (fun _ => XS.iloadN X6.here hx rfl (hb hby d12_63) rfl) ?_
  show Done _ p e below s _ _ (T6.setTop (mkF m 64 #[oR x1, oI (1048576 : Int32), oI (1 : Int32), oI ((0 : Int32) + (own_u8 (y0 &&& (255 : Int32)))), oI (1 : Int32), oI (y1 &&& (255 : Int32))] [(.int ((0 : Int32) + (own_u8 (y0 &&& (255 : Int32)))))]))
  refine Done.step (fun _ => XS.iload X6.here hx rfl (hb hby d12_64) rfl) ?_
  show Done _ p e below s _ _ (T6.setTop (mkF m 66 #[oR x1, oI (1048576 : Int32), oI (1 : Int32), oI ((0 : Int32) + (own_u8 (y0 &&& (255 : Int32)))), oI (1 : Int32), oI (y1 &&& (255 : Int32))] [(.int (y1 &&& (255 : Int32))), (.int ((0 : Int32) + (own_u8 (y0 &&& (255 : Int32)))))]))
  refine Done.callSP X6 hx hZ hown (wAt hw 89 rfl) (wAt hw 90 rfl) (wAt hw 54 rfl) (wAt hw 91 rfl) (by decide) (rmU8 l Z a0 hw [] (y1 &&& (255 : Int32)) h0 n0 Z0 (own_cp _ _ (by decide))) e6 (g := (mkF m 66 #[oR x1, oI (1048576 : Int32), oI (1 : Int32), oI ((0 : Int32) + (own_u8 (y0 &&& (255 : Int32)))), oI (1 : Int32), oI (y1 &&& (255 : Int32))] [(.int (y1 &&& (255 : Int32))), (.int ((0 : Int32) + (own_u8 (y0 &&& (255 : Int32)))))])) rfl (by rw [hml]; rfl) [(.int (y1 &&& (255 : Int32)))] [(.int ((0 : Int32) + (own_u8 (y0 &&& (255 : Int32)))))] 1 (lenOf pd_7 rfl) rfl rfl (by show 2 * 0 + _ ≤ _; exact Nat.le_of_eq rfl) (hb hby d12_66) (by decide) (by decide) (by decide) (by decide) rfl rfl ?_
  intro T7 X7 e7
  show Done _ p e below s _ _ (T7.setTop (mkF m 69 #[oR x1, oI (1048576 : Int32), oI (1 : Int32), oI ((0 : Int32) + (own_u8 (y0 &&& (255 : Int32)))), oI (1 : Int32), oI (y1 &&& (255 : Int32))] [(.int (own_u8 (y1 &&& (255 : Int32)))), (.int ((0 : Int32) + (own_u8 (y0 &&& (255 : Int32)))))]))
  refine Done.step (fun _ => XS.iadd X7.here hx rfl (hb hby d12_69) rfl) ?_
  show Done _ p e below s _ _ (T7.setTop (mkF m 70 #[oR x1, oI (1048576 : Int32), oI (1 : Int32), oI ((0 : Int32) + (own_u8 (y0 &&& (255 : Int32)))), oI (1 : Int32), oI (y1 &&& (255 : Int32))] [(.int (((0 : Int32) + (own_u8 (y0 &&& (255 : Int32)))) + (own_u8 (y1 &&& (255 : Int32)))))]))
  refine Done.step (fun _ => XS.istoreN X7.here hx rfl (hb hby d12_70) rfl (l' := #[oR x1, oI (1048576 : Int32), oI (1 : Int32), oI (((0 : Int32) + (own_u8 (y0 &&& (255 : Int32)))) + (own_u8 (y1 &&& (255 : Int32)))), oI (1 : Int32), oI (y1 &&& (255 : Int32))]) rfl) ?_
  show Done _ p e below s _ _ (T7.setTop (mkF m 71 #[oR x1, oI (1048576 : Int32), oI (1 : Int32), oI (((0 : Int32) + (own_u8 (y0 &&& (255 : Int32)))) + (own_u8 (y1 &&& (255 : Int32)))), oI (1 : Int32), oI (y1 &&& (255 : Int32))] []))
  refine Done.step (fun _ => XS.iload X7.here hx rfl (hb hby d12_71) rfl) ?_
  show Done _ p e below s _ _ (T7.setTop (mkF m 73 #[oR x1, oI (1048576 : Int32), oI (1 : Int32), oI (((0 : Int32) + (own_u8 (y0 &&& (255 : Int32)))) + (own_u8 (y1 &&& (255 : Int32)))), oI (1 : Int32), oI (y1 &&& (255 : Int32))] [(.int (1 : Int32))]))
  refine Done.step (fun _ => XS.iload X7.here hx rfl (hb hby d12_73) rfl) ?_
  show Done _ p e below s _ _ (T7.setTop (mkF m 75 #[oR x1, oI (1048576 : Int32), oI (1 : Int32), oI (((0 : Int32) + (own_u8 (y0 &&& (255 : Int32)))) + (own_u8 (y1 &&& (255 : Int32)))), oI (1 : Int32), oI (y1 &&& (255 : Int32))] [(.int (y1 &&& (255 : Int32))), (.int (1 : Int32))]))
  refine Done.callSP X7 hx hZ hown (wAt hw 92 rfl) (wAt hw 93 rfl) (wAt hw 94 rfl) (wAt hw 95 rfl) (by decide) (rmCC l Z a0 hw [] (y1 &&& (255 : Int32)) h0 n0 Z0 (own_cp _ _ (by decide))) e7 (g := (mkF m 75 #[oR x1, oI (1048576 : Int32), oI (1 : Int32), oI (((0 : Int32) + (own_u8 (y0 &&& (255 : Int32)))) + (own_u8 (y1 &&& (255 : Int32)))), oI (1 : Int32), oI (y1 &&& (255 : Int32))] [(.int (y1 &&& (255 : Int32))), (.int (1 : Int32))])) rfl (by rw [hml]; rfl) [(.int (y1 &&& (255 : Int32)))] [(.int (1 : Int32))] 1 (lenOf pd_7 rfl) rfl rfl (by show 2 * 0 + _ ≤ _; exact Nat.le_of_eq rfl) (hb hby d12_75) (by decide) (by decide) (by decide) (by decide) rfl rfl ?_
  intro T8 X8 e8
  show Done _ p e below s _ _ (T8.setTop (mkF m 78 #[oR x1, oI (1048576 : Int32), oI (1 : Int32), oI (((0 : Int32) + (own_u8 (y0 &&& (255 : Int32)))) + (own_u8 (y1 &&& (255 : Int32)))), oI (1 : Int32), oI (y1 &&& (255 : Int32))] [(.int (1 : Int32)), (.int (1 : Int32))]))
  refine Done.step (fun _ => XS.iadd X8.here hx rfl (hb hby d12_78) rfl) ?_
  show Done _ p e below s _ _ (T8.setTop (mkF m 79 #[oR x1, oI (1048576 : Int32), oI (1 : Int32), oI (((0 : Int32) + (own_u8 (y0 &&& (255 : Int32)))) + (own_u8 (y1 &&& (255 : Int32)))), oI (1 : Int32), oI (y1 &&& (255 : Int32))] [(.int (2 : Int32))]))
  refine Done.step (fun _ => XS.istore X8.here hx rfl (hb hby d12_79) rfl (l' := #[oR x1, oI (1048576 : Int32), oI (1 : Int32), oI (((0 : Int32) + (own_u8 (y0 &&& (255 : Int32)))) + (own_u8 (y1 &&& (255 : Int32)))), oI (2 : Int32), oI (y1 &&& (255 : Int32))]) rfl) ?_
  show Done _ p e below s _ _ (T8.setTop (mkF m 81 #[oR x1, oI (1048576 : Int32), oI (1 : Int32), oI (((0 : Int32) + (own_u8 (y0 &&& (255 : Int32)))) + (own_u8 (y1 &&& (255 : Int32)))), oI (2 : Int32), oI (y1 &&& (255 : Int32))] []))
  refine Done.step (fun _ => XS.goto X8.here hx rfl (pc0 := 81) (pc' := 5) rfl (hb hby d12_81) (by decide) (by decide)) ?_
  show Done _ p e below s _ _ (T8.setTop (mkF m 5 #[oR x1, oI (1048576 : Int32), oI (1 : Int32), oI (((0 : Int32) + (own_u8 (y0 &&& (255 : Int32)))) + (own_u8 (y1 &&& (255 : Int32)))), oI (2 : Int32), oI (y1 &&& (255 : Int32))] []))
  refine Done.step (fun _ => XS.iload X8.here hx rfl (hb hby d12_5) rfl) ?_
  show Done _ p e below s _ _ (T8.setTop (mkF m 7 #[oR x1, oI (1048576 : Int32), oI (1 : Int32), oI (((0 : Int32) + (own_u8 (y0 &&& (255 : Int32)))) + (own_u8 (y1 &&& (255 : Int32)))), oI (2 : Int32), oI (y1 &&& (255 : Int32))] [(.int (2 : Int32))]))
  refine Done.step (fun _ => XS.aloadN X8.here hx rfl (hb hby d12_7) rfl rfl) ?_
  show Done _ p e below s _ _ (T8.setTop (mkF m 8 #[oR x1, oI (1048576 : Int32), oI (1 : Int32), oI (((0 : Int32) + (own_u8 (y0 &&& (255 : Int32)))) + (own_u8 (y1 &&& (255 : Int32)))), oI (2 : Int32), oI (y1 &&& (255 : Int32))] [(.ref x1), (.int (2 : Int32))]))
  refine Done.callVP X8 hx hZ (C := "java/lang/String") hown (wAt hw 60 rfl) (wAt hw 61 rfl) (notFace_of_selects (args := #[]) (mvT hZ (wAt hw 63 rfl))) (wAt hw 63 rfl) (wAt hw 62 rfl) (wAt hw 11 rfl) (wAt hw 64 rfl) (by decide) (rmL3 l Z a0 hw [] x1 t1 kb1 y0 y1 y2 z h0 n0 Z0 O0 SC hz E1 V1 C1 K1) e8 E1 (g := (mkF m 8 #[oR x1, oI (1048576 : Int32), oI (1 : Int32), oI (((0 : Int32) + (own_u8 (y0 &&& (255 : Int32)))) + (own_u8 (y1 &&& (255 : Int32)))), oI (2 : Int32), oI (y1 &&& (255 : Int32))] [(.ref x1), (.int (2 : Int32))])) rfl (by rw [hml]; rfl) [] [(.int (2 : Int32))] 1 (lenOf pd_3 rfl) rfl rfl (by show 2 * 0 + _ ≤ _; exact Nat.le_of_eq rfl) (hb hby d12_8) (by decide) (by decide) (by decide) (by decide) rfl rfl ?_
  intro T9 X9 e9
  show Done _ p e below s _ _ (T9.setTop (mkF m 11 #[oR x1, oI (1048576 : Int32), oI (1 : Int32), oI (((0 : Int32) + (own_u8 (y0 &&& (255 : Int32)))) + (own_u8 (y1 &&& (255 : Int32)))), oI (2 : Int32), oI (y1 &&& (255 : Int32))] [(.int (3 : Int32)), (.int (2 : Int32))]))
  refine Done.step (fun _ => XS.icmpNo X9.here hx rfl (hb hby d12_11) rfl (XT.ii_ge_f (by decide))) ?_
  show Done _ p e below s _ _ (T9.setTop (mkF m 14 #[oR x1, oI (1048576 : Int32), oI (1 : Int32), oI (((0 : Int32) + (own_u8 (y0 &&& (255 : Int32)))) + (own_u8 (y1 &&& (255 : Int32)))), oI (2 : Int32), oI (y1 &&& (255 : Int32))] []))
  refine Done.step (fun _ => XS.iloadN X9.here hx rfl (hb hby d12_14) rfl) ?_
  show Done _ p e below s _ _ (T9.setTop (mkF m 15 #[oR x1, oI (1048576 : Int32), oI (1 : Int32), oI (((0 : Int32) + (own_u8 (y0 &&& (255 : Int32)))) + (own_u8 (y1 &&& (255 : Int32)))), oI (2 : Int32), oI (y1 &&& (255 : Int32))] [(.int (((0 : Int32) + (own_u8 (y0 &&& (255 : Int32)))) + (own_u8 (y1 &&& (255 : Int32)))))]))
  refine Done.step (fun _ => XS.iloadN X9.here hx rfl (hb hby d12_15) rfl) ?_
  show Done _ p e below s _ _ (T9.setTop (mkF m 16 #[oR x1, oI (1048576 : Int32), oI (1 : Int32), oI (((0 : Int32) + (own_u8 (y0 &&& (255 : Int32)))) + (own_u8 (y1 &&& (255 : Int32)))), oI (2 : Int32), oI (y1 &&& (255 : Int32))] [(.int (1048576 : Int32)), (.int (((0 : Int32) + (own_u8 (y0 &&& (255 : Int32)))) + (own_u8 (y1 &&& (255 : Int32)))))]))
  refine Done.step (fun _ => XS.icmpNo X9.here hx rfl (hb hby d12_16) rfl (XT.ii_gt_f (own_l2 _ _))) ?_
  show Done _ p e below s _ _ (T9.setTop (mkF m 19 #[oR x1, oI (1048576 : Int32), oI (1 : Int32), oI (((0 : Int32) + (own_u8 (y0 &&& (255 : Int32)))) + (own_u8 (y1 &&& (255 : Int32)))), oI (2 : Int32), oI (y1 &&& (255 : Int32))] []))
  refine Done.step (fun _ => XS.aloadN X9.here hx rfl (hb hby d12_19) rfl rfl) ?_
  show Done _ p e below s _ _ (T9.setTop (mkF m 20 #[oR x1, oI (1048576 : Int32), oI (1 : Int32), oI (((0 : Int32) + (own_u8 (y0 &&& (255 : Int32)))) + (own_u8 (y1 &&& (255 : Int32)))), oI (2 : Int32), oI (y1 &&& (255 : Int32))] [(.ref x1)]))
  refine Done.step (fun _ => XS.iload X9.here hx rfl (hb hby d12_20) rfl) ?_
  show Done _ p e below s _ _ (T9.setTop (mkF m 22 #[oR x1, oI (1048576 : Int32), oI (1 : Int32), oI (((0 : Int32) + (own_u8 (y0 &&& (255 : Int32)))) + (own_u8 (y1 &&& (255 : Int32)))), oI (2 : Int32), oI (y1 &&& (255 : Int32))] [(.int (2 : Int32)), (.ref x1)]))
  refine Done.callVP X9 hx hZ (C := "java/lang/String") hown (wAt hw 70 rfl) (wAt hw 71 rfl) (notFace_of_selects (args := #[]) (mvT hZ (wAt hw 73 rfl))) (wAt hw 73 rfl) (wAt hw 72 rfl) (wAt hw 11 rfl) (wAt hw 74 rfl) (by decide) (rmC32 l Z a0 hw [] x1 t1 kb1 y0 y1 y2 z fm h0 n0 Z0 O0 SC hz SF rF E1 V1 C1 K1) e9 E1 (g := (mkF m 22 #[oR x1, oI (1048576 : Int32), oI (1 : Int32), oI (((0 : Int32) + (own_u8 (y0 &&& (255 : Int32)))) + (own_u8 (y1 &&& (255 : Int32)))), oI (2 : Int32), oI (y1 &&& (255 : Int32))] [(.int (2 : Int32)), (.ref x1)])) rfl (by rw [hml]; rfl) [(.int (2 : Int32))] [] 0 (lenOf pd_7 rfl) rfl rfl (by show 2 * 0 + _ ≤ _; exact Nat.le_of_eq rfl) (hb hby d12_22) (by decide) (by decide) (by decide) (by decide) rfl rfl ?_
  intro T10 X10 e10
  show Done _ p e below s _ _ (T10.setTop (mkF m 25 #[oR x1, oI (1048576 : Int32), oI (1 : Int32), oI (((0 : Int32) + (own_u8 (y0 &&& (255 : Int32)))) + (own_u8 (y1 &&& (255 : Int32)))), oI (2 : Int32), oI (y1 &&& (255 : Int32))] [(.int (y2 &&& (255 : Int32)))]))
  refine Done.step (fun _ => XS.istore X10.here hx rfl (hb hby d12_25) rfl (l' := #[oR x1, oI (1048576 : Int32), oI (1 : Int32), oI (((0 : Int32) + (own_u8 (y0 &&& (255 : Int32)))) + (own_u8 (y1 &&& (255 : Int32)))), oI (2 : Int32), oI (y2 &&& (255 : Int32))]) rfl) ?_
  show Done _ p e below s _ _ (T10.setTop (mkF m 27 #[oR x1, oI (1048576 : Int32), oI (1 : Int32), oI (((0 : Int32) + (own_u8 (y0 &&& (255 : Int32)))) + (own_u8 (y1 &&& (255 : Int32)))), oI (2 : Int32), oI (y2 &&& (255 : Int32))] []))
  refine Done.step (fun _ => XS.iload X10.here hx rfl (hb hby d12_27) rfl) ?_
  show Done _ p e below s _ _ (T10.setTop (mkF m 29 #[oR x1, oI (1048576 : Int32), oI (1 : Int32), oI (((0 : Int32) + (own_u8 (y0 &&& (255 : Int32)))) + (own_u8 (y1 &&& (255 : Int32)))), oI (2 : Int32), oI (y2 &&& (255 : Int32))] [(.int (y2 &&& (255 : Int32)))]))
  refine Done.step (fun _ => Stand.ldcI X10 hx hown (mvT hZ (wAt hw 88 rfl)) (g := (mkF m 29 #[oR x1, oI (1048576 : Int32), oI (1 : Int32), oI (((0 : Int32) + (own_u8 (y0 &&& (255 : Int32)))) + (own_u8 (y1 &&& (255 : Int32)))), oI (2 : Int32), oI (y2 &&& (255 : Int32))] [(.int (y2 &&& (255 : Int32)))])) rfl (hb hby d12_29)) ?_
  show Done _ p e below s _ _ (T10.setTop (mkF m 31 #[oR x1, oI (1048576 : Int32), oI (1 : Int32), oI (((0 : Int32) + (own_u8 (y0 &&& (255 : Int32)))) + (own_u8 (y1 &&& (255 : Int32)))), oI (2 : Int32), oI (y2 &&& (255 : Int32))] [(.int (55296 : Int32)), (.int (y2 &&& (255 : Int32)))]))
  refine Done.step (fun _ => XS.icmpYes X10.here hx rfl (pc0 := 31) (pc' := 43) rfl (hb hby d12_31) rfl (XT.ii_lt_t (own_cp _ _ (by decide))) (by decide) (by decide)) ?_
  show Done _ p e below s _ _ (T10.setTop (mkF m 43 #[oR x1, oI (1048576 : Int32), oI (1 : Int32), oI (((0 : Int32) + (own_u8 (y0 &&& (255 : Int32)))) + (own_u8 (y1 &&& (255 : Int32)))), oI (2 : Int32), oI (y2 &&& (255 : Int32))] []))
  refine Done.step (fun _ => XS.iloadN X10.here hx rfl (hb hby d12_43) rfl) ?_
  show Done _ p e below s _ _ (T10.setTop (mkF m 44 #[oR x1, oI (1048576 : Int32), oI (1 : Int32), oI (((0 : Int32) + (own_u8 (y0 &&& (255 : Int32)))) + (own_u8 (y1 &&& (255 : Int32)))), oI (2 : Int32), oI (y2 &&& (255 : Int32))] [(.int (1 : Int32))]))
  refine Done.step (fun _ => XS.ifYes X10.here hx rfl (pc0 := 44) (pc' := 63) rfl (hb hby d12_44) rfl (XT.i0_ne_t (by decide)) (by decide) (by decide)) ?_
  show Done _ p e below s _ _ (T10.setTop (mkF m 63 #[oR x1, oI (1048576 : Int32), oI (1 : Int32), oI (((0 : Int32) + (own_u8 (y0 &&& (255 : Int32)))) + (own_u8 (y1 &&& (255 : Int32)))), oI (2 : Int32), oI (y2 &&& (255 : Int32))] []))
  refine Done.step (fun _ => XS.iloadN X10.here hx rfl (hb hby d12_63) rfl) ?_
  show Done _ p e below s _ _ (T10.setTop (mkF m 64 #[oR x1, oI (1048576 : Int32), oI (1 : Int32), oI (((0 : Int32) + (own_u8 (y0 &&& (255 : Int32)))) + (own_u8 (y1 &&& (255 : Int32)))), oI (2 : Int32), oI (y2 &&& (255 : Int32))] [(.int (((0 : Int32) + (own_u8 (y0 &&& (255 : Int32)))) + (own_u8 (y1 &&& (255 : Int32)))))]))
  refine Done.step (fun _ => XS.iload X10.here hx rfl (hb hby d12_64) rfl) ?_
  show Done _ p e below s _ _ (T10.setTop (mkF m 66 #[oR x1, oI (1048576 : Int32), oI (1 : Int32), oI (((0 : Int32) + (own_u8 (y0 &&& (255 : Int32)))) + (own_u8 (y1 &&& (255 : Int32)))), oI (2 : Int32), oI (y2 &&& (255 : Int32))] [(.int (y2 &&& (255 : Int32))), (.int (((0 : Int32) + (own_u8 (y0 &&& (255 : Int32)))) + (own_u8 (y1 &&& (255 : Int32)))))]))
  refine Done.callSP X10 hx hZ hown (wAt hw 89 rfl) (wAt hw 90 rfl) (wAt hw 54 rfl) (wAt hw 91 rfl) (by decide) (rmU8 l Z a0 hw [] (y2 &&& (255 : Int32)) h0 n0 Z0 (own_cp _ _ (by decide))) e10 (g := (mkF m 66 #[oR x1, oI (1048576 : Int32), oI (1 : Int32), oI (((0 : Int32) + (own_u8 (y0 &&& (255 : Int32)))) + (own_u8 (y1 &&& (255 : Int32)))), oI (2 : Int32), oI (y2 &&& (255 : Int32))] [(.int (y2 &&& (255 : Int32))), (.int (((0 : Int32) + (own_u8 (y0 &&& (255 : Int32)))) + (own_u8 (y1 &&& (255 : Int32)))))])) rfl (by rw [hml]; rfl) [(.int (y2 &&& (255 : Int32)))] [(.int (((0 : Int32) + (own_u8 (y0 &&& (255 : Int32)))) + (own_u8 (y1 &&& (255 : Int32)))))] 1 (lenOf pd_7 rfl) rfl rfl (by show 2 * 0 + _ ≤ _; exact Nat.le_of_eq rfl) (hb hby d12_66) (by decide) (by decide) (by decide) (by decide) rfl rfl ?_
  intro T11 X11 e11
  show Done _ p e below s _ _ (T11.setTop (mkF m 69 #[oR x1, oI (1048576 : Int32), oI (1 : Int32), oI (((0 : Int32) + (own_u8 (y0 &&& (255 : Int32)))) + (own_u8 (y1 &&& (255 : Int32)))), oI (2 : Int32), oI (y2 &&& (255 : Int32))] [(.int (own_u8 (y2 &&& (255 : Int32)))), (.int (((0 : Int32) + (own_u8 (y0 &&& (255 : Int32)))) + (own_u8 (y1 &&& (255 : Int32)))))]))
  refine Done.step (fun _ => XS.iadd X11.here hx rfl (hb hby d12_69) rfl) ?_
  show Done _ p e below s _ _ (T11.setTop (mkF m 70 #[oR x1, oI (1048576 : Int32), oI (1 : Int32), oI (((0 : Int32) + (own_u8 (y0 &&& (255 : Int32)))) + (own_u8 (y1 &&& (255 : Int32)))), oI (2 : Int32), oI (y2 &&& (255 : Int32))] [(.int ((((0 : Int32) + (own_u8 (y0 &&& (255 : Int32)))) + (own_u8 (y1 &&& (255 : Int32)))) + (own_u8 (y2 &&& (255 : Int32)))))]))
  refine Done.step (fun _ => XS.istoreN X11.here hx rfl (hb hby d12_70) rfl (l' := #[oR x1, oI (1048576 : Int32), oI (1 : Int32), oI ((((0 : Int32) + (own_u8 (y0 &&& (255 : Int32)))) + (own_u8 (y1 &&& (255 : Int32)))) + (own_u8 (y2 &&& (255 : Int32)))), oI (2 : Int32), oI (y2 &&& (255 : Int32))]) rfl) ?_
  show Done _ p e below s _ _ (T11.setTop (mkF m 71 #[oR x1, oI (1048576 : Int32), oI (1 : Int32), oI ((((0 : Int32) + (own_u8 (y0 &&& (255 : Int32)))) + (own_u8 (y1 &&& (255 : Int32)))) + (own_u8 (y2 &&& (255 : Int32)))), oI (2 : Int32), oI (y2 &&& (255 : Int32))] []))
  refine Done.step (fun _ => XS.iload X11.here hx rfl (hb hby d12_71) rfl) ?_
  show Done _ p e below s _ _ (T11.setTop (mkF m 73 #[oR x1, oI (1048576 : Int32), oI (1 : Int32), oI ((((0 : Int32) + (own_u8 (y0 &&& (255 : Int32)))) + (own_u8 (y1 &&& (255 : Int32)))) + (own_u8 (y2 &&& (255 : Int32)))), oI (2 : Int32), oI (y2 &&& (255 : Int32))] [(.int (2 : Int32))]))
  refine Done.step (fun _ => XS.iload X11.here hx rfl (hb hby d12_73) rfl) ?_
  show Done _ p e below s _ _ (T11.setTop (mkF m 75 #[oR x1, oI (1048576 : Int32), oI (1 : Int32), oI ((((0 : Int32) + (own_u8 (y0 &&& (255 : Int32)))) + (own_u8 (y1 &&& (255 : Int32)))) + (own_u8 (y2 &&& (255 : Int32)))), oI (2 : Int32), oI (y2 &&& (255 : Int32))] [(.int (y2 &&& (255 : Int32))), (.int (2 : Int32))]))
  refine Done.callSP X11 hx hZ hown (wAt hw 92 rfl) (wAt hw 93 rfl) (wAt hw 94 rfl) (wAt hw 95 rfl) (by decide) (rmCC l Z a0 hw [] (y2 &&& (255 : Int32)) h0 n0 Z0 (own_cp _ _ (by decide))) e11 (g := (mkF m 75 #[oR x1, oI (1048576 : Int32), oI (1 : Int32), oI ((((0 : Int32) + (own_u8 (y0 &&& (255 : Int32)))) + (own_u8 (y1 &&& (255 : Int32)))) + (own_u8 (y2 &&& (255 : Int32)))), oI (2 : Int32), oI (y2 &&& (255 : Int32))] [(.int (y2 &&& (255 : Int32))), (.int (2 : Int32))])) rfl (by rw [hml]; rfl) [(.int (y2 &&& (255 : Int32)))] [(.int (2 : Int32))] 1 (lenOf pd_7 rfl) rfl rfl (by show 2 * 0 + _ ≤ _; exact Nat.le_of_eq rfl) (hb hby d12_75) (by decide) (by decide) (by decide) (by decide) rfl rfl ?_
  intro T12 X12 e12
  show Done _ p e below s _ _ (T12.setTop (mkF m 78 #[oR x1, oI (1048576 : Int32), oI (1 : Int32), oI ((((0 : Int32) + (own_u8 (y0 &&& (255 : Int32)))) + (own_u8 (y1 &&& (255 : Int32)))) + (own_u8 (y2 &&& (255 : Int32)))), oI (2 : Int32), oI (y2 &&& (255 : Int32))] [(.int (1 : Int32)), (.int (2 : Int32))]))
  refine Done.step (fun _ => XS.iadd X12.here hx rfl (hb hby d12_78) rfl) ?_
  show Done _ p e below s _ _ (T12.setTop (mkF m 79 #[oR x1, oI (1048576 : Int32), oI (1 : Int32), oI ((((0 : Int32) + (own_u8 (y0 &&& (255 : Int32)))) + (own_u8 (y1 &&& (255 : Int32)))) + (own_u8 (y2 &&& (255 : Int32)))), oI (2 : Int32), oI (y2 &&& (255 : Int32))] [(.int (3 : Int32))]))
  refine Done.step (fun _ => XS.istore X12.here hx rfl (hb hby d12_79) rfl (l' := #[oR x1, oI (1048576 : Int32), oI (1 : Int32), oI ((((0 : Int32) + (own_u8 (y0 &&& (255 : Int32)))) + (own_u8 (y1 &&& (255 : Int32)))) + (own_u8 (y2 &&& (255 : Int32)))), oI (3 : Int32), oI (y2 &&& (255 : Int32))]) rfl) ?_
  show Done _ p e below s _ _ (T12.setTop (mkF m 81 #[oR x1, oI (1048576 : Int32), oI (1 : Int32), oI ((((0 : Int32) + (own_u8 (y0 &&& (255 : Int32)))) + (own_u8 (y1 &&& (255 : Int32)))) + (own_u8 (y2 &&& (255 : Int32)))), oI (3 : Int32), oI (y2 &&& (255 : Int32))] []))
  refine Done.step (fun _ => XS.goto X12.here hx rfl (pc0 := 81) (pc' := 5) rfl (hb hby d12_81) (by decide) (by decide)) ?_
  show Done _ p e below s _ _ (T12.setTop (mkF m 5 #[oR x1, oI (1048576 : Int32), oI (1 : Int32), oI ((((0 : Int32) + (own_u8 (y0 &&& (255 : Int32)))) + (own_u8 (y1 &&& (255 : Int32)))) + (own_u8 (y2 &&& (255 : Int32)))), oI (3 : Int32), oI (y2 &&& (255 : Int32))] []))
  refine Done.step (fun _ => XS.iload X12.here hx rfl (hb hby d12_5) rfl) ?_
  show Done _ p e below s _ _ (T12.setTop (mkF m 7 #[oR x1, oI (1048576 : Int32), oI (1 : Int32), oI ((((0 : Int32) + (own_u8 (y0 &&& (255 : Int32)))) + (own_u8 (y1 &&& (255 : Int32)))) + (own_u8 (y2 &&& (255 : Int32)))), oI (3 : Int32), oI (y2 &&& (255 : Int32))] [(.int (3 : Int32))]))
  refine Done.step (fun _ => XS.aloadN X12.here hx rfl (hb hby d12_7) rfl rfl) ?_
  show Done _ p e below s _ _ (T12.setTop (mkF m 8 #[oR x1, oI (1048576 : Int32), oI (1 : Int32), oI ((((0 : Int32) + (own_u8 (y0 &&& (255 : Int32)))) + (own_u8 (y1 &&& (255 : Int32)))) + (own_u8 (y2 &&& (255 : Int32)))), oI (3 : Int32), oI (y2 &&& (255 : Int32))] [(.ref x1), (.int (3 : Int32))]))
  refine Done.callVP X12 hx hZ (C := "java/lang/String") hown (wAt hw 60 rfl) (wAt hw 61 rfl) (notFace_of_selects (args := #[]) (mvT hZ (wAt hw 63 rfl))) (wAt hw 63 rfl) (wAt hw 62 rfl) (wAt hw 11 rfl) (wAt hw 64 rfl) (by decide) (rmL3 l Z a0 hw [] x1 t1 kb1 y0 y1 y2 z h0 n0 Z0 O0 SC hz E1 V1 C1 K1) e12 E1 (g := (mkF m 8 #[oR x1, oI (1048576 : Int32), oI (1 : Int32), oI ((((0 : Int32) + (own_u8 (y0 &&& (255 : Int32)))) + (own_u8 (y1 &&& (255 : Int32)))) + (own_u8 (y2 &&& (255 : Int32)))), oI (3 : Int32), oI (y2 &&& (255 : Int32))] [(.ref x1), (.int (3 : Int32))])) rfl (by rw [hml]; rfl) [] [(.int (3 : Int32))] 1 (lenOf pd_3 rfl) rfl rfl (by show 2 * 0 + _ ≤ _; exact Nat.le_of_eq rfl) (hb hby d12_8) (by decide) (by decide) (by decide) (by decide) rfl rfl ?_
  intro T13 X13 e13
  show Done _ p e below s _ _ (T13.setTop (mkF m 11 #[oR x1, oI (1048576 : Int32), oI (1 : Int32), oI ((((0 : Int32) + (own_u8 (y0 &&& (255 : Int32)))) + (own_u8 (y1 &&& (255 : Int32)))) + (own_u8 (y2 &&& (255 : Int32)))), oI (3 : Int32), oI (y2 &&& (255 : Int32))] [(.int (3 : Int32)), (.int (3 : Int32))]))
  refine Done.step (fun _ => XS.icmpYes X13.here hx rfl (pc0 := 11) (pc' := 84) rfl (hb hby d12_11) rfl (XT.ii_ge_t (by decide)) (by decide) (by decide)) ?_
  show Done _ p e below s _ _ (T13.setTop (mkF m 84 #[oR x1, oI (1048576 : Int32), oI (1 : Int32), oI ((((0 : Int32) + (own_u8 (y0 &&& (255 : Int32)))) + (own_u8 (y1 &&& (255 : Int32)))) + (own_u8 (y2 &&& (255 : Int32)))), oI (3 : Int32), oI (y2 &&& (255 : Int32))] []))
  refine Done.step (fun _ => XS.iloadN X13.here hx rfl (hb hby d12_84) rfl) ?_
  show Done _ p e below s _ _ (T13.setTop (mkF m 85 #[oR x1, oI (1048576 : Int32), oI (1 : Int32), oI ((((0 : Int32) + (own_u8 (y0 &&& (255 : Int32)))) + (own_u8 (y1 &&& (255 : Int32)))) + (own_u8 (y2 &&& (255 : Int32)))), oI (3 : Int32), oI (y2 &&& (255 : Int32))] [(.int ((((0 : Int32) + (own_u8 (y0 &&& (255 : Int32)))) + (own_u8 (y1 &&& (255 : Int32)))) + (own_u8 (y2 &&& (255 : Int32)))))]))
  refine Done.step (fun _ => XS.iloadN X13.here hx rfl (hb hby d12_85) rfl) ?_
  show Done _ p e below s _ _ (T13.setTop (mkF m 86 #[oR x1, oI (1048576 : Int32), oI (1 : Int32), oI ((((0 : Int32) + (own_u8 (y0 &&& (255 : Int32)))) + (own_u8 (y1 &&& (255 : Int32)))) + (own_u8 (y2 &&& (255 : Int32)))), oI (3 : Int32), oI (y2 &&& (255 : Int32))] [(.int (1048576 : Int32)), (.int ((((0 : Int32) + (own_u8 (y0 &&& (255 : Int32)))) + (own_u8 (y1 &&& (255 : Int32)))) + (own_u8 (y2 &&& (255 : Int32)))))]))
  refine Done.step (fun _ => XS.icmpNo X13.here hx rfl (hb hby d12_86) rfl (XT.ii_gt_f (own_l3 _ _ _))) ?_
  show Done _ p e below s _ _ (T13.setTop (mkF m 89 #[oR x1, oI (1048576 : Int32), oI (1 : Int32), oI ((((0 : Int32) + (own_u8 (y0 &&& (255 : Int32)))) + (own_u8 (y1 &&& (255 : Int32)))) + (own_u8 (y2 &&& (255 : Int32)))), oI (3 : Int32), oI (y2 &&& (255 : Int32))] []))
  refine Done.step (fun _ => XT.iconstV X13.here hx rfl (1 : Int32) (hb hby d12_89) (by decide)) ?_
  show Done _ p e below s _ _ (T13.setTop (mkF m 90 #[oR x1, oI (1048576 : Int32), oI (1 : Int32), oI ((((0 : Int32) + (own_u8 (y0 &&& (255 : Int32)))) + (own_u8 (y1 &&& (255 : Int32)))) + (own_u8 (y2 &&& (255 : Int32)))), oI (3 : Int32), oI (y2 &&& (255 : Int32))] [(.int (1 : Int32))]))
  refine Done.step (fun _ => XS.goto X13.here hx rfl (pc0 := 90) (pc' := 94) rfl (hb hby d12_90) (by decide) (by decide)) ?_
  show Done _ p e below s _ _ (T13.setTop (mkF m 94 #[oR x1, oI (1048576 : Int32), oI (1 : Int32), oI ((((0 : Int32) + (own_u8 (y0 &&& (255 : Int32)))) + (own_u8 (y1 &&& (255 : Int32)))) + (own_u8 (y2 &&& (255 : Int32)))), oI (3 : Int32), oI (y2 &&& (255 : Int32))] [(.int (1 : Int32))]))
  exact Done.retN (leavesF X13 hlk (by decide) (by decide)) X13 hx (t := .boolean) hret (by simp) (hb hby d12_94) ⟨rfl, e13, rfl⟩
set_option maxRecDepth 65536 in
set_option maxHeartbeats 40000000 in
theorem rmR3 (l : Launch) (Z : State) (a0 : Array Value) (hw : ∀ d ∈ tables_1, d.before a0 Z = true) (ws : List Jvm.Cond) (x1 t1 : Addr) (kb1 : ClassId) (y0 : Int32) (y1 : Int32) (y2 : Int32) (z : Int32) (fm : Value) (h0 : Heap) (n0 : Nat) (Z0 : n0 ≤ h0.size) (O0 : Old Z n0 h0) (SC : Sta Z Z.heap "java/lang/String" "COMPACT_STRINGS" "Z" (.int z)) (hz : ¬ z = 0) (SF : Sta Z Z.heap "jdk/internal/util/Preconditions" "SIOOBE_FORMATTER" "Ljava/util/function/BiFunction;" fm) (rF : fm.isRef = true) (E1 : Exa Z h0 x1 "java/lang/String") (V1 : Fld Z h0 x1 "java/lang/String" "value" "[B" (.ref t1)) (C1 : Fld Z h0 x1 "java/lang/String" "coder" "B" (.int (0 : Int32))) (K1 : Arv Z h0 t1 kb1 .byte (3 : Int32) [(.int y0), (.int y1), (.int y2)] (.int 0)) :
    Ctr FrameEnd l Z (⟨"com/example/minho/minho/core/Limits", "requireValue", "(Ljava/lang/String;)Ljava/lang/String;"⟩ : MethodName) prog_23_method_5_code 1 (some (.object "java/lang/String")) ws ({ frames := 4, cells := 0, slots := 0, locals := 64 } : Room) #[(.ref x1)] h0 TrueV (PureQ (some (.ref x1)) h0) := by
  refine Ctr.intro (plainFor_of_name pn_com_example_minho_minho_core_Limits) (Ls := #[.val (.ref x1)]) (fun m => by first | (simp [entryFrame, mkF, argsToLocals, Value.category]; done) | rfl) ?_
  intro p e s m below meth c T0 hx hby hml hown hnm hret hlk hZ hV hsh e0 X0
  have N0 := Fr.nil n0
  show Done _ p e below s _ _ (T0.setTop (mkF m 0 #[oR x1] []))
  refine Done.step (fun _ => XS.aloadN X0.here hx rfl (hb hby d11_0) rfl rfl) ?_
  show Done _ p e below s _ _ (T0.setTop (mkF m 1 #[oR x1] [(.ref x1)]))
  refine Done.step (fun _ => XS.ifnullNo X0.here hx rfl (hb hby d11_1) rfl) ?_
  show Done _ p e below s _ _ (T0.setTop (mkF m 4 #[oR x1] []))
  refine Done.step (fun _ => XS.aloadN X0.here hx rfl (hb hby d11_4) rfl rfl) ?_
  show Done _ p e below s _ _ (T0.setTop (mkF m 5 #[oR x1] [(.ref x1)]))
  refine Done.step (fun _ => Stand.ldcI X0 hx hown (mvT hZ (wAt hw 56 rfl)) (g := (mkF m 5 #[oR x1] [(.ref x1)])) rfl (hb hby d11_5)) ?_
  show Done _ p e below s _ _ (T0.setTop (mkF m 7 #[oR x1] [(.int (1048576 : Int32)), (.ref x1)]))
  refine Done.step (fun _ => XT.iconstV X0.here hx rfl (1 : Int32) (hb hby d11_7) (by decide)) ?_
  show Done _ p e below s _ _ (T0.setTop (mkF m 8 #[oR x1] [(.int (1 : Int32)), (.int (1048576 : Int32)), (.ref x1)]))
  refine Done.callSP X0 hx hZ hown (wAt hw 57 rfl) (wAt hw 58 rfl) (wAt hw 54 rfl) (wAt hw 59 rfl) (by decide) (rmU3 l Z a0 hw [] x1 t1 kb1 y0 y1 y2 z fm h0 n0 Z0 O0 SC hz SF rF E1 V1 C1 K1) e0 (g := (mkF m 8 #[oR x1] [(.int (1 : Int32)), (.int (1048576 : Int32)), (.ref x1)])) rfl (by rw [hml]; rfl) [(.ref x1), (.int (1048576 : Int32)), (.int (1 : Int32))] [] 0 (lenOf pd_4 rfl) rfl rfl (by show 2 * 0 + _ ≤ _; exact Nat.le_of_eq rfl) (hb hby d11_8) (by decide) (by decide) (by decide) (by decide) rfl rfl ?_
  intro T1 X1 e1
  show Done _ p e below s _ _ (T1.setTop (mkF m 11 #[oR x1] [(.int (1 : Int32))]))
  refine Done.step (fun _ => XS.ifYes X1.here hx rfl (pc0 := 11) (pc' := 24) rfl (hb hby d11_11) rfl (XT.i0_ne_t (by decide)) (by decide) (by decide)) ?_
  show Done _ p e below s _ _ (T1.setTop (mkF m 24 #[oR x1] []))
  refine Done.step (fun _ => XS.aloadN X1.here hx rfl (hb hby d11_24) rfl rfl) ?_
  show Done _ p e below s _ _ (T1.setTop (mkF m 25 #[oR x1] [(.ref x1)]))
  exact Done.retA (leavesF X1 hlk (by decide) (by decide)) X1 hx hret rfl rfl (hb hby d11_25) ⟨rfl, e1, rfl⟩
set_option maxHeartbeats 4000000 in
theorem rmR (l : Launch) (Z : State) (a0 : Array Value) (hw : ∀ d ∈ tables_1, d.before a0 Z = true) (ws : List Jvm.Cond) (x1 t1 : Addr) (kb1 : ClassId) (cs1 : List Int32) (z : Int32) (fm : Value) (h0 : Heap) (n0 : Nat) (Z0 : n0 ≤ h0.size) (O0 : Old Z n0 h0) (SC : Sta Z Z.heap "java/lang/String" "COMPACT_STRINGS" "Z" (.int z)) (hz : ¬ z = 0) (SF : Sta Z Z.heap "jdk/internal/util/Preconditions" "SIOOBE_FORMATTER" "Ljava/util/function/BiFunction;" fm) (rF : fm.isRef = true) (gE1 : Exa Z h0 x1 "java/lang/String") (gV1 : Fld Z h0 x1 "java/lang/String" "value" "[B" (.ref t1)) (gC1 : Fld Z h0 x1 "java/lang/String" "coder" "B" (.int (0 : Int32))) (gK1 : Arv Z h0 t1 kb1 .byte (Int32.ofNat cs1.length) ((cs1.map (fun c => c.toInt8.toInt32)).map Value.int) (.int 0)) (hl1 : cs1.length ≤ 3) :
    Ctr FrameEnd l Z (⟨"com/example/minho/minho/core/Limits", "requireValue", "(Ljava/lang/String;)Ljava/lang/String;"⟩ : MethodName) prog_23_method_5_code 1 (some (.object "java/lang/String")) ws ({ frames := 4, cells := 0, slots := 0, locals := 64 } : Room) #[(.ref x1)] h0 TrueV (PureQ (some (.ref x1)) h0) := by
  rcases cs1 with _ | ⟨c0, cs1⟩
  · have K1 : Arv Z h0 t1 kb1 .byte (0 : Int32) [] (.int 0) := gK1
    exact rmR0 l Z a0 hw ws x1 t1 kb1  z fm h0 n0 Z0 O0 SC hz SF rF gE1 gV1 gC1 K1
  rcases cs1 with _ | ⟨c1, cs1⟩
  · have K1 : Arv Z h0 t1 kb1 .byte (1 : Int32) [(.int (c0.toInt8.toInt32))] (.int 0) := gK1
    exact rmR1 l Z a0 hw ws x1 t1 kb1 (c0.toInt8.toInt32) z fm h0 n0 Z0 O0 SC hz SF rF gE1 gV1 gC1 K1
  rcases cs1 with _ | ⟨c2, cs1⟩
  · have K1 : Arv Z h0 t1 kb1 .byte (2 : Int32) [(.int (c0.toInt8.toInt32)), (.int (c1.toInt8.toInt32))] (.int 0) := gK1
    exact rmR2 l Z a0 hw ws x1 t1 kb1 (c0.toInt8.toInt32) (c1.toInt8.toInt32) z fm h0 n0 Z0 O0 SC hz SF rF gE1 gV1 gC1 K1
  rcases cs1 with _ | ⟨c3, cs1⟩
  · have K1 : Arv Z h0 t1 kb1 .byte (3 : Int32) [(.int (c0.toInt8.toInt32)), (.int (c1.toInt8.toInt32)), (.int (c2.toInt8.toInt32))] (.int 0) := gK1
    exact rmR3 l Z a0 hw ws x1 t1 kb1 (c0.toInt8.toInt32) (c1.toInt8.toInt32) (c2.toInt8.toInt32) z fm h0 n0 Z0 O0 SC hz SF rF gE1 gV1 gC1 K1
  · simp only [List.length_cons] at hl1; omega
def QV (Z : State) (n0 : Nat) (h0 : Heap) (a x : Addr) (ver : Int64) (v : Option Value) (h : Heap) (_ : Vm) (L : List Loc) : Prop := v = none ∧ Fr n0 L ∧ Keep h0 h [a] ∧ Exa Z h a "com/example/minho/minho/core/VersionedValue" ∧ Fld Z h a "com/example/minho/minho/core/VersionedValue" "m_value" "Ljava/lang/String;" (.ref x) ∧ Fld Z h a "com/example/minho/minho/core/VersionedValue" "m_version" "J" (.long ver)
theorem pn_com_example_minho_minho_core_VersionedValue : plainName "com/example/minho/minho/core/VersionedValue" = true := by first | (simp [plainName, overriddenIn]; done) | decide +kernel
theorem d10_0 : decode prog_44_method_1_code 0 = .ok (.aload_n 0, 1) := by decide +kernel
theorem d10_1 : decode prog_44_method_1_code 1 = .ok (.invokespecial 1, 3) := by decide +kernel
theorem d10_4 : decode prog_44_method_1_code 4 = .ok (.lload_n 2, 1) := by decide +kernel
theorem d10_5 : decode prog_44_method_1_code 5 = .ok (.lconst 1, 1) := by decide +kernel
theorem d10_6 : decode prog_44_method_1_code 6 = .ok (.lcmp, 1) := by decide +kernel
theorem d10_7 : decode prog_44_method_1_code 7 = .ok (.ifCond .ge 13, 3) := by decide +kernel
theorem d10_20 : decode prog_44_method_1_code 20 = .ok (.aload_n 0, 1) := by decide +kernel
theorem d10_21 : decode prog_44_method_1_code 21 = .ok (.aload_n 1, 1) := by decide +kernel
theorem d10_22 : decode prog_44_method_1_code 22 = .ok (.invokestatic 14, 3) := by decide +kernel
theorem pd_8 : parseMethodDescriptor "(Ljava/lang/String;)Ljava/lang/String;" = some ⟨[(.object "java/lang/String")], some (.object "java/lang/String")⟩ := by decide +kernel
theorem d10_25 : decode prog_44_method_1_code 25 = .ok (.putfield 20, 3) := by decide +kernel
theorem d10_28 : decode prog_44_method_1_code 28 = .ok (.aload_n 0, 1) := by decide +kernel
theorem d10_29 : decode prog_44_method_1_code 29 = .ok (.lload_n 2, 1) := by decide +kernel
theorem d10_30 : decode prog_44_method_1_code 30 = .ok (.putfield 26, 3) := by decide +kernel
theorem d10_33 : decode prog_44_method_1_code 33 = .ok (.return_, 1) := by decide +kernel
set_option maxRecDepth 65536 in
set_option maxHeartbeats 40000000 in
theorem rmV (l : Launch) (Z : State) (a0 : Array Value) (hw : ∀ d ∈ tables_1, d.before a0 Z = true) (ws : List Jvm.Cond) (a : Addr) (x1 t1 : Addr) (kb1 : ClassId) (cs1 : List Int32) (ver : Int64) (z : Int32) (fm : Value) (h0 : Heap) (n0 : Nat) (Z0 : n0 ≤ h0.size) (Ea : Exa Z h0 a "com/example/minho/minho/core/VersionedValue") (Fh : Fld Z h0 a "com/example/minho/minho/core/VersionedValue" "m_value" "Ljava/lang/String;" .null) (Fp : Fld Z h0 a "com/example/minho/minho/core/VersionedValue" "m_version" "J" (.long (0 : Int64))) (ga : n0 ≤ a) (gE1 : Exa Z h0 x1 "java/lang/String") (gV1 : Fld Z h0 x1 "java/lang/String" "value" "[B" (.ref t1)) (gC1 : Fld Z h0 x1 "java/lang/String" "coder" "B" (.int (0 : Int32))) (gK1 : Arv Z h0 t1 kb1 .byte (Int32.ofNat cs1.length) ((cs1.map (fun c => c.toInt8.toInt32)).map Value.int) (.int 0)) (nax : a ≠ x1) (nat : a ≠ t1) (O0 : Old Z n0 h0) (SC : Sta Z Z.heap "java/lang/String" "COMPACT_STRINGS" "Z" (.int z)) (hz : ¬ z = 0) (SF : Sta Z Z.heap "jdk/internal/util/Preconditions" "SIOOBE_FORMATTER" "Ljava/util/function/BiFunction;" fm) (rF : fm.isRef = true) (hp1 : ∀ c ∈ cs1, ¬ c < 0 ∧ ¬ (255 : Int32) < c) (hl1 : cs1.length ≤ 3) (hv : ¬ ver < (1 : Int64)) :
    Ctr FrameEnd l Z (⟨"com/example/minho/minho/core/VersionedValue", "<init>", "(Ljava/lang/String;J)V"⟩ : MethodName) prog_44_method_1_code 4 none ws ({ frames := 5, cells := 0, slots := 0, locals := 77 } : Room) #[(.ref a), (.ref x1), (.long ver)] h0 TrueV (QV Z n0 h0 a x1 ver) := by
  refine Ctr.intro (plainFor_of_name pn_com_example_minho_minho_core_VersionedValue) (Ls := #[.val (.ref a), .val (.ref x1), .val (.long ver), .second]) (fun m => by first | (simp [entryFrame, mkF, argsToLocals, Value.category]; done) | rfl) ?_
  intro p e s m below meth c T0 hx hby hml hown hnm hret hlk hZ hV hsh e0 X0
  have N0 := Fr.nil n0
  show Done _ p e below s _ _ (T0.setTop (mkF m 0 #[oR a, oR x1, oJ ver, .second] []))
  refine Done.step (fun _ => XS.aloadN X0.here hx rfl (hb hby d10_0) rfl rfl) ?_
  show Done _ p e below s _ _ (T0.setTop (mkF m 1 #[oR a, oR x1, oJ ver, .second] [(.ref a)]))
  obtain ⟨T1, X1, e1, st1⟩ := initO X0 hx hZ hown (wAt hw 51 rfl) (wAt hw 24 rfl) (wAt hw 25 rfl) e0 (g := (mkF m 1 #[oR a, oR x1, oJ ver, .second] [(.ref a)])) rfl (by rw [hml]; rfl) rfl (hb hby d10_1) (by decide) (W := 0) (by show 2 * 0 + _ ≤ _; exact Nat.le_of_eq rfl) (by decide)
  refine Done.step st1 ?_
  show Done _ p e below s _ _ (T1.setTop (mkF m 4 #[oR a, oR x1, oJ ver, .second] []))
  refine Done.step (fun _ => XT.lloadN X1.here hx rfl (hb hby d10_4) rfl) ?_
  show Done _ p e below s _ _ (T1.setTop (mkF m 5 #[oR a, oR x1, oJ ver, .second] [(.long ver)]))
  refine Done.step (fun _ => XT.lconstV X1.here hx rfl (1 : Int64) (hb hby d10_5) (by decide)) ?_
  show Done _ p e below s _ _ (T1.setTop (mkF m 6 #[oR a, oR x1, oJ ver, .second] [(.long (1 : Int64)), (.long ver)]))
  refine Done.step (fun _ => XT.lcmp X1.here hx rfl (hb hby d10_6) rfl) ?_
  show Done _ p e below s _ _ (T1.setTop (mkF m 7 #[oR a, oR x1, oJ ver, .second] [(.int (XT.cmpL ver (1 : Int64)))]))
  refine Done.step (fun _ => XS.ifYes X1.here hx rfl (pc0 := 7) (pc' := 20) rfl (hb hby d10_7) rfl (XT.ll_ge_t hv) (by decide) (by decide)) ?_
  show Done _ p e below s _ _ (T1.setTop (mkF m 20 #[oR a, oR x1, oJ ver, .second] []))
  refine Done.step (fun _ => XS.aloadN X1.here hx rfl (hb hby d10_20) rfl rfl) ?_
  show Done _ p e below s _ _ (T1.setTop (mkF m 21 #[oR a, oR x1, oJ ver, .second] [(.ref a)]))
  refine Done.step (fun _ => XS.aloadN X1.here hx rfl (hb hby d10_21) rfl rfl) ?_
  show Done _ p e below s _ _ (T1.setTop (mkF m 22 #[oR a, oR x1, oJ ver, .second] [(.ref x1), (.ref a)]))
  refine Done.callSP X1 hx hZ hown (wAt hw 52 rfl) (wAt hw 53 rfl) (wAt hw 54 rfl) (wAt hw 55 rfl) (by decide) (rmR l Z a0 hw [] x1 t1 kb1 cs1 z fm h0 n0 Z0 O0 SC hz SF rF gE1 gV1 gC1 gK1 hl1) e1 (g := (mkF m 22 #[oR a, oR x1, oJ ver, .second] [(.ref x1), (.ref a)])) rfl (by rw [hml]; rfl) [(.ref x1)] [(.ref a)] 1 (lenOf pd_8 rfl) rfl rfl (by show 2 * 0 + _ ≤ _; exact Nat.le_of_eq rfl) (hb hby d10_22) (by decide) (by decide) (by decide) (by decide) rfl rfl ?_
  intro T2 X2 e2
  show Done _ p e below s _ _ (T2.setTop (mkF m 25 #[oR a, oR x1, oJ ver, .second] [(.ref x1), (.ref a)]))
  obtain ⟨T3, h3, X3, e3, W3, st3⟩ := putF X2 hx hZ hown (host := "") (Or.inl (wAt hw 97 rfl)) Via.refl e2 Fh Ea (Or.inr ⟨(wAt hw 98 rfl), rfl, hnm⟩) (wAt hw 46 rfl) (ty := (.object "java/lang/String")) (by decide) rfl rfl (g := (mkF m 25 #[oR a, oR x1, oJ ver, .second] [(.ref x1), (.ref a)])) rfl rfl (hb hby d10_25)
  have F3 := Fh.same W3
  have N3 := Fr.snoc X3 N0 ga
  have Zs3 := Nat.le_trans Z0 (Keep.of_wr W3).1
  have K3 := (Keep.refl h0 [a]).wr W3 (Or.inl (List.mem_of_getElem? (i := 0) rfl))
  refine Done.step st3 ?_
  show Done _ p e below s _ _ (T3.setTop (mkF m 28 #[oR a, oR x1, oJ ver, .second] []))
  refine Done.step (fun _ => XS.aloadN X3.here hx rfl (hb hby d10_28) rfl rfl) ?_
  show Done _ p e below s _ _ (T3.setTop (mkF m 29 #[oR a, oR x1, oJ ver, .second] [(.ref a)]))
  refine Done.step (fun _ => XT.lloadN X3.here hx rfl (hb hby d10_29) rfl) ?_
  show Done _ p e below s _ _ (T3.setTop (mkF m 30 #[oR a, oR x1, oJ ver, .second] [(.long ver), (.ref a)]))
  have f5 := (Fp.other W3 (Or.inr (slot_ne (Or.inr (wAt hw 100 rfl)) (Or.inr (wAt hw 98 rfl)) (by decide) (t := .long) (t' := (.object "java/lang/String")) (by decide) (by decide))))
  have f6 := (Ea.wr W3)
  obtain ⟨T4, h4, X4, e4, W4, st4⟩ := putF X3 hx hZ hown (host := "") (Or.inl (wAt hw 99 rfl)) Via.refl e3 f5 f6 (Or.inr ⟨(wAt hw 100 rfl), rfl, hnm⟩) (wAt hw 46 rfl) (ty := .long) (by decide) rfl rfl (g := (mkF m 30 #[oR a, oR x1, oJ ver, .second] [(.long ver), (.ref a)])) rfl rfl (hb hby d10_30)
  have F4 := f5.same W4
  have N4 := Fr.snoc X4 N3 ga
  have Zs4 := Nat.le_trans Zs3 (Keep.of_wr W4).1
  have K4 := K3.wr W4 (Or.inl (List.mem_of_getElem? (i := 0) rfl))
  refine Done.step st4 ?_
  show Done _ p e below s _ _ (T4.setTop (mkF m 33 #[oR a, oR x1, oJ ver, .second] []))
  have f7 := (f6.wr W4)
  have f8 := (F3.other W4 (Or.inr (slot_ne (Or.inr (wAt hw 98 rfl)) (Or.inr (wAt hw 100 rfl)) (by decide) (t := (.object "java/lang/String")) (t' := .long) (by decide) (by decide))))
  refine Done.retV (leavesF X4 hlk (by decide) (by decide)) X4 hx hret (hb hby d10_33) ?_
  rw [e4]
  exact ⟨rfl, N4, K4, f7, f8, F4⟩
theorem d21_0 : decode prog_44_method_4_code 0 = .ok (.aload_n 1, 1) := by decide +kernel
theorem d21_1 : decode prog_44_method_4_code 1 = .ok (.instanceof 21, 3) := by decide +kernel
theorem d21_4 : decode prog_44_method_4_code 4 = .ok (.ifCond .eq 38, 3) := by decide +kernel
theorem d21_7 : decode prog_44_method_4_code 7 = .ok (.aload_n 1, 1) := by decide +kernel
theorem d21_8 : decode prog_44_method_4_code 8 = .ok (.checkcast 21, 3) := by decide +kernel
theorem d21_11 : decode prog_44_method_4_code 11 = .ok (.astore_n 2, 1) := by decide +kernel
theorem d21_12 : decode prog_44_method_4_code 12 = .ok (.aload_n 2, 1) := by decide +kernel
theorem d21_13 : decode prog_44_method_4_code 13 = .ok (.getfield 26, 3) := by decide +kernel
theorem d21_16 : decode prog_44_method_4_code 16 = .ok (.aload_n 0, 1) := by decide +kernel
theorem d21_17 : decode prog_44_method_4_code 17 = .ok (.getfield 26, 3) := by decide +kernel
theorem d21_20 : decode prog_44_method_4_code 20 = .ok (.lcmp, 1) := by decide +kernel
theorem d21_21 : decode prog_44_method_4_code 21 = .ok (.ifCond .ne 21, 3) := by decide +kernel
theorem d21_24 : decode prog_44_method_4_code 24 = .ok (.aload_n 2, 1) := by decide +kernel
theorem d21_25 : decode prog_44_method_4_code 25 = .ok (.getfield 20, 3) := by decide +kernel
theorem d21_28 : decode prog_44_method_4_code 28 = .ok (.aload_n 0, 1) := by decide +kernel
theorem d21_29 : decode prog_44_method_4_code 29 = .ok (.getfield 20, 3) := by decide +kernel
theorem d21_32 : decode prog_44_method_4_code 32 = .ok (.invokevirtual 30, 3) := by decide +kernel
theorem pd_9 : parseMethodDescriptor "(Ljava/lang/Object;)Z" = some ⟨[(.object "java/lang/Object")], some .boolean⟩ := by decide +kernel
theorem d21_35 : decode prog_44_method_4_code 35 = .ok (.ifCond .eq 7, 3) := by decide +kernel
theorem d21_38 : decode prog_44_method_4_code 38 = .ok (.iconst 1, 1) := by decide +kernel
theorem d21_39 : decode prog_44_method_4_code 39 = .ok (.goto 4, 3) := by decide +kernel
theorem d21_43 : decode prog_44_method_4_code 43 = .ok (.ireturn, 1) := by decide +kernel
theorem d21_42 : decode prog_44_method_4_code 42 = .ok (.iconst 0, 1) := by decide +kernel
set_option maxRecDepth 65536 in
set_option maxHeartbeats 40000000 in
theorem rmE (l : Launch) (Z : State) (a0 : Array Value) (hw : ∀ d ∈ tables_1, d.before a0 Z = true) (ws : List Jvm.Cond) (a b : Addr) (x1 t1 : Addr) (kb1 : ClassId) (cs1 : List Int32) (x2 t2 : Addr) (kb2 : ClassId) (cs2 : List Int32) (p1 p2 : Int64) (r z : Int32) (h0 : Heap) (n0 : Nat) (Z0 : n0 ≤ h0.size) (Eb : Exa Z h0 b "com/example/minho/minho/core/VersionedValue") (Fh1 : Fld Z h0 a "com/example/minho/minho/core/VersionedValue" "m_value" "Ljava/lang/String;" (.ref x1)) (Fh1p : Fld Z h0 a "com/example/minho/minho/core/VersionedValue" "m_version" "J" (.long p1)) (Fh2 : Fld Z h0 b "com/example/minho/minho/core/VersionedValue" "m_value" "Ljava/lang/String;" (.ref x2)) (Fh2p : Fld Z h0 b "com/example/minho/minho/core/VersionedValue" "m_version" "J" (.long p2)) (gE1 : Exa Z h0 x1 "java/lang/String") (gV1 : Fld Z h0 x1 "java/lang/String" "value" "[B" (.ref t1)) (gC1 : Fld Z h0 x1 "java/lang/String" "coder" "B" (.int (0 : Int32))) (gK1 : Arv Z h0 t1 kb1 .byte (Int32.ofNat cs1.length) ((cs1.map (fun c => c.toInt8.toInt32)).map Value.int) (.int 0)) (gE2 : Exa Z h0 x2 "java/lang/String") (gV2 : Fld Z h0 x2 "java/lang/String" "value" "[B" (.ref t2)) (gC2 : Fld Z h0 x2 "java/lang/String" "coder" "B" (.int (0 : Int32))) (gK2 : Arv Z h0 t2 kb2 .byte (Int32.ofNat cs2.length) ((cs2.map (fun c => c.toInt8.toInt32)).map Value.int) (.int 0)) (O0 : Old Z n0 h0) (SC : Sta Z Z.heap "java/lang/String" "COMPACT_STRINGS" "Z" (.int z)) (hz : ¬ z = 0) (hp1 : ∀ c ∈ cs1, ¬ c < 0 ∧ ¬ (255 : Int32) < c) (hl1 : cs1.length ≤ 3) (hp2 : ∀ c ∈ cs2, ¬ c < 0 ∧ ¬ (255 : Int32) < c) (hl2 : cs2.length ≤ 3) (hr : r = bP (p2 = p1 ∧ cs2 = cs1)) :
    Ctr FrameEnd l Z (⟨"com/example/minho/minho/core/VersionedValue", "equals", "(Ljava/lang/Object;)Z"⟩ : MethodName) prog_44_method_4_code 3 (some .boolean) ws ({ frames := 2, cells := 0, slots := 0, locals := 28 } : Room) #[(.ref a), (.ref b)] h0 TrueV (PureQ (some (.int r)) h0) := by
  refine Ctr.intro (plainFor_of_name pn_com_example_minho_minho_core_VersionedValue) (Ls := #[.val (.ref a), .val (.ref b), .unset]) (fun m => by first | (simp [entryFrame, mkF, argsToLocals, Value.category]; done) | rfl) ?_
  intro p e s m below meth c T0 hx hby hml hown hnm hret hlk hZ hV hsh e0 X0
  have N0 := Fr.nil n0
  show Done _ p e below s _ _ (T0.setTop (mkF m 0 #[oR a, oR b, .unset] []))
  refine Done.step (fun _ => XS.aloadN X0.here hx rfl (hb hby d21_0) rfl rfl) ?_
  show Done _ p e below s _ _ (T0.setTop (mkF m 1 #[oR a, oR b, .unset] [(.ref b)]))
  obtain ⟨T1, X1, e1, st1⟩ := instY X0 hx hZ hown (wAt hw 106 rfl) e0 (Ins.self Eb) (g := (mkF m 1 #[oR a, oR b, .unset] [(.ref b)])) rfl rfl (hb hby d21_1)
  refine Done.step st1 ?_
  show Done _ p e below s _ _ (T1.setTop (mkF m 4 #[oR a, oR b, .unset] [(.int (1 : Int32))]))
  refine Done.step (fun _ => XS.ifNo X1.here hx rfl (hb hby d21_4) rfl (XT.i0_eq_f (by decide))) ?_
  show Done _ p e below s _ _ (T1.setTop (mkF m 7 #[oR a, oR b, .unset] []))
  refine Done.step (fun _ => XS.aloadN X1.here hx rfl (hb hby d21_7) rfl rfl) ?_
  show Done _ p e below s _ _ (T1.setTop (mkF m 8 #[oR a, oR b, .unset] [(.ref b)]))
  obtain ⟨T2, X2, e2, st2⟩ := castY X1 hx hZ hown (wAt hw 106 rfl) e1 (Ins.self Eb) (g := (mkF m 8 #[oR a, oR b, .unset] [(.ref b)])) rfl rfl (hb hby d21_8)
  refine Done.step st2 ?_
  show Done _ p e below s _ _ (T2.setTop (mkF m 11 #[oR a, oR b, .unset] [(.ref b)]))
  refine Done.step (fun _ => XS.astoreN X2.here hx rfl (hb hby d21_11) rfl rfl (l' := #[oR a, oR b, oR b]) rfl) ?_
  show Done _ p e below s _ _ (T2.setTop (mkF m 12 #[oR a, oR b, oR b] []))
  refine Done.step (fun _ => XS.aloadN X2.here hx rfl (hb hby d21_12) rfl rfl) ?_
  show Done _ p e below s _ _ (T2.setTop (mkF m 13 #[oR a, oR b, oR b] [(.ref b)]))
  obtain ⟨T3, X3, e3, st3⟩ := getF X2 hx hZ hown (host := "") (Or.inl (wAt hw 99 rfl)) Via.refl e2 Fh2p (g := (mkF m 13 #[oR a, oR b, oR b] [(.ref b)])) rfl rfl (hb hby d21_13)
  refine Done.step st3 ?_
  show Done _ p e below s _ _ (T3.setTop (mkF m 16 #[oR a, oR b, oR b] [(.long p2)]))
  refine Done.step (fun _ => XS.aloadN X3.here hx rfl (hb hby d21_16) rfl rfl) ?_
  show Done _ p e below s _ _ (T3.setTop (mkF m 17 #[oR a, oR b, oR b] [(.ref a), (.long p2)]))
  obtain ⟨T4, X4, e4, st4⟩ := getF X3 hx hZ hown (host := "") (Or.inl (wAt hw 99 rfl)) Via.refl e3 Fh1p (g := (mkF m 17 #[oR a, oR b, oR b] [(.ref a), (.long p2)])) rfl rfl (hb hby d21_17)
  refine Done.step st4 ?_
  show Done _ p e below s _ _ (T4.setTop (mkF m 20 #[oR a, oR b, oR b] [(.long p1), (.long p2)]))
  refine Done.step (fun _ => XT.lcmp X4.here hx rfl (hb hby d21_20) rfl) ?_
  show Done _ p e below s _ _ (T4.setTop (mkF m 21 #[oR a, oR b, oR b] [(.int (XT.cmpL p2 p1))]))
  by_cases hc5 : p2 = p1
  · refine Done.step (fun _ => XS.ifNo X4.here hx rfl (hb hby d21_21) rfl (XT.ll_ne_f hc5)) ?_
    show Done _ p e below s _ _ (T4.setTop (mkF m 24 #[oR a, oR b, oR b] []))
    refine Done.step (fun _ => XS.aloadN X4.here hx rfl (hb hby d21_24) rfl rfl) ?_
    show Done _ p e below s _ _ (T4.setTop (mkF m 25 #[oR a, oR b, oR b] [(.ref b)]))
    obtain ⟨T6, X6, e6, st6⟩ := getF X4 hx hZ hown (host := "") (Or.inl (wAt hw 97 rfl)) Via.refl e4 Fh2 (g := (mkF m 25 #[oR a, oR b, oR b] [(.ref b)])) rfl rfl (hb hby d21_25)
    refine Done.step st6 ?_
    show Done _ p e below s _ _ (T6.setTop (mkF m 28 #[oR a, oR b, oR b] [(.ref x2)]))
    refine Done.step (fun _ => XS.aloadN X6.here hx rfl (hb hby d21_28) rfl rfl) ?_
    show Done _ p e below s _ _ (T6.setTop (mkF m 29 #[oR a, oR b, oR b] [(.ref a), (.ref x2)]))
    obtain ⟨T7, X7, e7, st7⟩ := getF X6 hx hZ hown (host := "") (Or.inl (wAt hw 97 rfl)) Via.refl e6 Fh1 (g := (mkF m 29 #[oR a, oR b, oR b] [(.ref a), (.ref x2)])) rfl rfl (hb hby d21_29)
    refine Done.step st7 ?_
    show Done _ p e below s _ _ (T7.setTop (mkF m 32 #[oR a, oR b, oR b] [(.ref x1), (.ref x2)]))
    refine Done.callVB (nc := 0) (ns := 0) (C := "java/lang/String") (z := (⟨"java/lang/String", "equals", "(Ljava/lang/Object;)Z"⟩ : MethodName)) (Qh := (fun v h' L => ((v = some (.int 1) ∧ cs2 = cs1) ∨ (v = some (.int 0) ∧ ¬ cs2 = cs1)) ∧ L = [] ∧ h' = h0)) X7 hx hZ hown (wAt hw 108 rfl) (wAt hw 109 rfl) (notFace_of_selects (args := #[]) (mvT hZ (wAt hw 111 rfl))) (wAt hw 111 rfl) (wAt hw 110 rfl) (by decide) (StrChars.Road.eqW (W := 0) hZ (own_heq hw) (kI := 4) (wAt hw 10 rfl) gE2 gV2 gC2 gK2 (StrChars.Road.codOf (n := cs2.length) rfl (fun c hc => (hp2 c hc).2)) (own_up _ hp2) (Nat.le_trans hl2 (by decide)) gE1 gV1 gC1 gK1 (StrChars.Road.codOf (n := cs1.length) rfl (fun c hc => (hp1 c hc).2)) (own_up _ hp1) (Nat.le_trans hl1 (by decide)) (SC.ext O0.2) hz (by decide) (by decide)) e7 gE2 (g := (mkF m 32 #[oR a, oR b, oR b] [(.ref x1), (.ref x2)])) rfl (by rw [hml]; rfl) [(.ref x1)] [] (lenOf pd_9 rfl) rfl rfl (by show 2 * 0 + _ ≤ _; exact Nat.le_of_eq rfl) (hb hby d21_32) (by decide) (by decide) ?_
    intro T8 v8 L8 X8 q8
    obtain ⟨q8, rfl, e8⟩ := q8
    rcases q8 with ⟨rfl, hs9⟩ | ⟨rfl, hs9⟩
    · rw [List.append_nil] at X8
      show Done _ p e below s _ _ (T8.setTop (mkF m 35 #[oR a, oR b, oR b] [(.int (1 : Int32))]))
      refine Done.step (fun _ => XS.ifNo X8.here hx rfl (hb hby d21_35) rfl (XT.i0_eq_f (by decide))) ?_
      show Done _ p e below s _ _ (T8.setTop (mkF m 38 #[oR a, oR b, oR b] []))
      refine Done.step (fun _ => XT.iconstV X8.here hx rfl (1 : Int32) (hb hby d21_38) (by decide)) ?_
      show Done _ p e below s _ _ (T8.setTop (mkF m 39 #[oR a, oR b, oR b] [(.int (1 : Int32))]))
      refine Done.step (fun _ => XS.goto X8.here hx rfl (pc0 := 39) (pc' := 43) rfl (hb hby d21_39) (by decide) (by decide)) ?_
      show Done _ p e below s _ _ (T8.setTop (mkF m 43 #[oR a, oR b, oR b] [(.int (1 : Int32))]))
      exact Done.retN (leavesF X8 hlk (by decide) (by decide)) X8 hx (t := .boolean) hret (by simp) (hb hby d21_43) ⟨by rw [hr, bP_t ⟨hc5, hs9⟩]; rfl, e8, rfl⟩
    · rw [List.append_nil] at X8
      show Done _ p e below s _ _ (T8.setTop (mkF m 35 #[oR a, oR b, oR b] [(.int (0 : Int32))]))
      refine Done.step (fun _ => XS.ifYes X8.here hx rfl (pc0 := 35) (pc' := 42) rfl (hb hby d21_35) rfl (XT.i0_eq_t rfl) (by decide) (by decide)) ?_
      show Done _ p e below s _ _ (T8.setTop (mkF m 42 #[oR a, oR b, oR b] []))
      refine Done.step (fun _ => XT.iconstV X8.here hx rfl (0 : Int32) (hb hby d21_42) (by decide)) ?_
      show Done _ p e below s _ _ (T8.setTop (mkF m 43 #[oR a, oR b, oR b] [(.int (0 : Int32))]))
      exact Done.retN (leavesF X8 hlk (by decide) (by decide)) X8 hx (t := .boolean) hret (by simp) (hb hby d21_43) ⟨by rw [hr, bP_f (fun q => hs9 q.2)]; rfl, e8, rfl⟩
  · refine Done.step (fun _ => XS.ifYes X4.here hx rfl (pc0 := 21) (pc' := 42) rfl (hb hby d21_21) rfl (XT.ll_ne_t hc5) (by decide) (by decide)) ?_
    show Done _ p e below s _ _ (T4.setTop (mkF m 42 #[oR a, oR b, oR b] []))
    refine Done.step (fun _ => XT.iconstV X4.here hx rfl (0 : Int32) (hb hby d21_42) (by decide)) ?_
    show Done _ p e below s _ _ (T4.setTop (mkF m 43 #[oR a, oR b, oR b] [(.int (0 : Int32))]))
    exact Done.retN (leavesF X4 hlk (by decide) (by decide)) X4 hx (t := .boolean) hret (by simp) (hb hby d21_43) ⟨by rw [hr, bP_f (fun q => hc5 q.1)]; rfl, e4, rfl⟩
set_option maxRecDepth 65536 in
set_option maxHeartbeats 40000000 in
theorem rmN (l : Launch) (Z : State) (a0 : Array Value) (hw : ∀ d ∈ tables_1, d.before a0 Z = true) (ws : List Jvm.Cond) (a : Addr) (h0 : Heap) (n0 : Nat) (Z0 : n0 ≤ h0.size)  :
    Ctr FrameEnd l Z (⟨"com/example/minho/minho/core/VersionedValue", "equals", "(Ljava/lang/Object;)Z"⟩ : MethodName) prog_44_method_4_code 3 (some .boolean) ws ({ frames := 0, cells := 0, slots := 0, locals := 0 } : Room) #[(.ref a), .null] h0 TrueV (PureQ (some (.int (0 : Int32))) h0) := by
  refine Ctr.intro (plainFor_of_name pn_com_example_minho_minho_core_VersionedValue) (Ls := #[.val (.ref a), .val .null, .unset]) (fun m => by first | (simp [entryFrame, mkF, argsToLocals, Value.category]; done) | rfl) ?_
  intro p e s m below meth c T0 hx hby hml hown hnm hret hlk hZ hV hsh e0 X0
  have N0 := Fr.nil n0
  show Done _ p e below s _ _ (T0.setTop (mkF m 0 #[oR a, .val .null, .unset] []))
  refine Done.step (fun _ => XS.aloadN X0.here hx rfl (hb hby d21_0) rfl rfl) ?_
  show Done _ p e below s _ _ (T0.setTop (mkF m 1 #[oR a, .val .null, .unset] [.null]))
  refine Done.step (X0.instanceofNull hx (g := (mkF m 1 #[oR a, .val .null, .unset] [.null])) rfl rfl (hb hby d21_1)) ?_
  show Done _ p e below s _ _ (T0.setTop (mkF m 4 #[oR a, .val .null, .unset] [(.int (0 : Int32))]))
  refine Done.step (fun _ => XS.ifYes X0.here hx rfl (pc0 := 4) (pc' := 42) rfl (hb hby d21_4) rfl (XT.i0_eq_t rfl) (by decide) (by decide)) ?_
  show Done _ p e below s _ _ (T0.setTop (mkF m 42 #[oR a, .val .null, .unset] []))
  refine Done.step (fun _ => XT.iconstV X0.here hx rfl (0 : Int32) (hb hby d21_42) (by decide)) ?_
  show Done _ p e below s _ _ (T0.setTop (mkF m 43 #[oR a, .val .null, .unset] [(.int (0 : Int32))]))
  exact Done.retN (leavesF X0 hlk (by decide) (by decide)) X0 hx (t := .boolean) hret (by simp) (hb hby d21_43) ⟨rfl, e0, rfl⟩
theorem own_nsRoot {Z : State} {a0 : Array Value} {O K : String} {n : Nat} (w : (Jvm.Cond.noSuperclass O).before a0 Z = true) (wk : (Jvm.Cond.instantiable K n).before a0 Z = true) (hn : O ≠ K) : NS Z O K := by
  obtain ⟨c, k, h1, h2, h3, -, -⟩ := Cond.noSuperclass_spec w
  obtain ⟨t, k', g1, -⟩ := Cond.instantiable_spec wk
  have ne := ids_ne h1 g1 hn
  refine ⟨c, t, h1, g1, fun fuel => ?_⟩
  cases fuel with
  | zero => rfl
  | succ f => simp [Vm.isSubclassAux, ne, h2, h3]
theorem own_nsNo {Z : State} {a0 : Array Value} {C S K : String} {n : Nat} (w : (Jvm.Cond.superclass C S).before a0 Z = true) (wk : (Jvm.Cond.instantiable K n).before a0 Z = true) (q : NS Z C K) (hn : C ≠ K) : ∃ c t, Z.vm.findClass C = some c ∧ Z.vm.findClass K = some t ∧ Z.vm.assignable c t = false := by
  obtain ⟨c, t, h0, g0, n3⟩ := q
  obtain ⟨p, k, kp, h1, h2, h3, h4, h5, -, h7⟩ := Cond.superclass_spec h0 w
  obtain ⟨t', k', g1, g2, g5, g7, -⟩ := Cond.instantiable_spec wk
  cases g0.symm.trans g1
  have g7' : k'.isInterface = false := by simp at g7; exact g7.1
  have ne := ids_ne h0 g0 hn
  refine ⟨c, t, h0, g0, ?_⟩
  show Z.vm.assignableAux (255 + 1) c t = false
  simp [Vm.assignableAux, ne, h2, g2, h5, g5, g7', Vm.isSubclass, n3]
set_option maxRecDepth 65536 in
set_option maxHeartbeats 40000000 in
theorem rmI (l : Launch) (Z : State) (a0 : Array Value) (hw : ∀ d ∈ tables_1, d.before a0 Z = true) (ws : List Jvm.Cond) (a b : Addr) (h0 : Heap) (n0 : Nat) (Z0 : n0 ≤ h0.size) (Eb : Exa Z h0 b "java/lang/String") :
    Ctr FrameEnd l Z (⟨"com/example/minho/minho/core/VersionedValue", "equals", "(Ljava/lang/Object;)Z"⟩ : MethodName) prog_44_method_4_code 3 (some .boolean) ws ({ frames := 0, cells := 0, slots := 0, locals := 0 } : Room) #[(.ref a), (.ref b)] h0 TrueV (PureQ (some (.int (0 : Int32))) h0) := by
  refine Ctr.intro (plainFor_of_name pn_com_example_minho_minho_core_VersionedValue) (Ls := #[.val (.ref a), .val (.ref b), .unset]) (fun m => by first | (simp [entryFrame, mkF, argsToLocals, Value.category]; done) | rfl) ?_
  intro p e s m below meth c T0 hx hby hml hown hnm hret hlk hZ hV hsh e0 X0
  have N0 := Fr.nil n0
  show Done _ p e below s _ _ (T0.setTop (mkF m 0 #[oR a, oR b, .unset] []))
  refine Done.step (fun _ => XS.aloadN X0.here hx rfl (hb hby d21_0) rfl rfl) ?_
  show Done _ p e below s _ _ (T0.setTop (mkF m 1 #[oR a, oR b, .unset] [(.ref b)]))
  obtain ⟨T1, X1, e1, st1⟩ := instNo X0 hx hZ hown (wAt hw 106 rfl) e0 Eb (own_nsNo (wAt hw 118 rfl) (wAt hw 46 rfl) (NS.step (wAt hw 118 rfl) (own_nsRoot (wAt hw 119 rfl) (wAt hw 46 rfl) (by decide)) (by decide)) (by decide)) (g := (mkF m 1 #[oR a, oR b, .unset] [(.ref b)])) rfl rfl (hb hby d21_1)
  refine Done.step st1 ?_
  show Done _ p e below s _ _ (T1.setTop (mkF m 4 #[oR a, oR b, .unset] [(.int (0 : Int32))]))
  refine Done.step (fun _ => XS.ifYes X1.here hx rfl (pc0 := 4) (pc' := 42) rfl (hb hby d21_4) rfl (XT.i0_eq_t rfl) (by decide) (by decide)) ?_
  show Done _ p e below s _ _ (T1.setTop (mkF m 42 #[oR a, oR b, .unset] []))
  refine Done.step (fun _ => XT.iconstV X1.here hx rfl (0 : Int32) (hb hby d21_42) (by decide)) ?_
  show Done _ p e below s _ _ (T1.setTop (mkF m 43 #[oR a, oR b, .unset] [(.int (0 : Int32))]))
  exact Done.retN (leavesF X1 hlk (by decide) (by decide)) X1 hx (t := .boolean) hret (by simp) (hb hby d21_43) ⟨rfl, e1, rfl⟩
theorem own_chn (b k : Int32) : nar .char (own_ch b k) = own_ch b k := own_narI _
def own_csl (n : Nat) (b : Int32) : List Int32 := (List.range n).map fun k => own_ch b (Int32.ofNat k)
def QM (Z : State) (n0 : Nat) (h0 : Heap) (cs : List Int32) (v : Option Value) (h : Heap) (_ : Vm) (L : List Loc) : Prop := ∃ (x t : Addr) (kb : ClassId), v = some (.ref x) ∧ Fr n0 L ∧ Keep h0 h [] ∧ Exa Z h x "java/lang/String" ∧ Fld Z h x "java/lang/String" "value" "[B" (.ref t) ∧ Fld Z h x "java/lang/String" "coder" "B" (.int (0 : Int32)) ∧ Arv Z h t kb .byte (Int32.ofNat cs.length) ((cs.map (fun c => c.toInt8.toInt32)).map Value.int) (.int 0)
def QM0 (Z : State) (n0 : Nat) (h0 : Heap) (v : Option Value) (h : Heap) (vm : Vm) (L : List Loc) : Prop := ∃ (x : Addr), v = some (.ref x) ∧ Fr n0 L ∧ Keep h0 h [] ∧ ∃ (aa bb : Addr) (kk : ClassId), Lit (Z.setVm vm) "java/lang/String" 7 aa ∧ Fld Z h aa "java/lang/String" "value" "[B" (.ref bb) ∧ Fld Z h aa "java/lang/String" "coder" "B" (.int (0 : Int32)) ∧ Arv Z h bb kk .byte (0 : Int32) [] (.int 0) ∧ Exa Z h x "java/lang/String" ∧ Fld Z h x "java/lang/String" "value" "[B" (.ref bb) ∧ Fld Z h x "java/lang/String" "coder" "B" (.int (0 : Int32))
def QM1 (Z : State) (n0 : Nat) (h0 : Heap) (bb : Addr) (v : Option Value) (h : Heap) (vm : Vm) (L : List Loc) : Prop := ∃ (x : Addr), v = some (.ref x) ∧ Fr n0 L ∧ Keep h0 h [] ∧ Exa Z h x "java/lang/String" ∧ Fld Z h x "java/lang/String" "value" "[B" (.ref bb) ∧ Fld Z h x "java/lang/String" "coder" "B" (.int (0 : Int32))
theorem d2_0 : decode method_4_code 0 = .ok (.iload_n 0, 1) := by decide +kernel
theorem d2_1 : decode method_4_code 1 = .ok (.ifCond .ne 14, 3) := by decide +kernel
theorem d2_15 : decode method_4_code 15 = .ok (.iload_n 0, 1) := by decide +kernel
theorem d2_16 : decode method_4_code 16 = .ok (.iconst 1, 1) := by decide +kernel
theorem d2_17 : decode method_4_code 17 = .ok (.if_icmp .ne 22, 3) := by decide +kernel
theorem d2_20 : decode method_4_code 20 = .ok (.new 38, 3) := by decide +kernel
theorem d2_23 : decode method_4_code 23 = .ok (.dup, 1) := by decide +kernel
theorem d2_24 : decode method_4_code 24 = .ok (.iconst 1, 1) := by decide +kernel
theorem d2_25 : decode method_4_code 25 = .ok (.newarray .char, 2) := by decide +kernel
theorem d2_27 : decode method_4_code 27 = .ok (.dup, 1) := by decide +kernel
theorem d2_28 : decode method_4_code 28 = .ok (.iconst 0, 1) := by decide +kernel
theorem d2_29 : decode method_4_code 29 = .ok (.iload_n 1, 1) := by decide +kernel
theorem d2_30 : decode method_4_code 30 = .ok (.iconst 0, 1) := by decide +kernel
theorem d2_31 : decode method_4_code 31 = .ok (.invokestatic 25, 3) := by decide +kernel
theorem pd_10 : parseMethodDescriptor "(II)C" = some ⟨[.int, .int], some .char⟩ := by decide +kernel
theorem d2_34 : decode method_4_code 34 = .ok (.castore, 1) := by decide +kernel
theorem d2_35 : decode method_4_code 35 = .ok (.invokespecial 40, 3) := by decide +kernel
theorem pd_11 : parseMethodDescriptor "([C)V" = some ⟨[(.array .char)], none⟩ := by decide +kernel
theorem d2_38 : decode method_4_code 38 = .ok (.areturn, 1) := by decide +kernel
set_option maxRecDepth 65536 in
set_option maxHeartbeats 40000000 in
theorem rmM1 (l : Launch) (Z : State) (a0 : Array Value) (hw : ∀ d ∈ tables_1, d.before a0 Z = true) (ws : List Jvm.Cond) (bits z : Int32) (h0 : Heap) (n0 : Nat) (Z0 : n0 ≤ h0.size) (O0 : Old Z n0 h0) (SC : Sta Z Z.heap "java/lang/String" "COMPACT_STRINGS" "Z" (.int z)) (hz : ¬ z = 0) :
    Ctr FrameEnd l Z (⟨"com/example/minho/minho/core/VersionedValueEqualsPinLaw", "mk", "(II)Ljava/lang/String;"⟩ : MethodName) method_4_code 2 (some (.object "java/lang/String")) ws ({ frames := 6, cells := 4, slots := 12, locals := 100 } : Room) #[(.int (1 : Int32)), (.int bits)] h0 TrueV (QM Z n0 h0 [own_ch bits (0 : Int32)]) := by
  refine Ctr.intro (plainFor_of_name pn_com_example_minho_minho_core_VersionedValueEqualsPinLaw) (Ls := #[.val (.int (1 : Int32)), .val (.int bits)]) (fun m => by first | (simp [entryFrame, mkF, argsToLocals, Value.category]; done) | rfl) ?_
  intro p e s m below meth c T0 hx hby hml hown hnm hret hlk hZ hV hsh e0 X0
  have N0 := Fr.nil n0
  show Done _ p e below s _ _ (T0.setTop (mkF m 0 #[oI (1 : Int32), oI bits] []))
  refine Done.step (fun _ => XS.iloadN X0.here hx rfl (hb hby d2_0) rfl) ?_
  show Done _ p e below s _ _ (T0.setTop (mkF m 1 #[oI (1 : Int32), oI bits] [(.int (1 : Int32))]))
  refine Done.step (fun _ => XS.ifYes X0.here hx rfl (pc0 := 1) (pc' := 15) rfl (hb hby d2_1) rfl (XT.i0_ne_t (by decide)) (by decide) (by decide)) ?_
  show Done _ p e below s _ _ (T0.setTop (mkF m 15 #[oI (1 : Int32), oI bits] []))
  refine Done.step (fun _ => XS.iloadN X0.here hx rfl (hb hby d2_15) rfl) ?_
  show Done _ p e below s _ _ (T0.setTop (mkF m 16 #[oI (1 : Int32), oI bits] [(.int (1 : Int32))]))
  refine Done.step (fun _ => XT.iconstV X0.here hx rfl (1 : Int32) (hb hby d2_16) (by decide)) ?_
  show Done _ p e below s _ _ (T0.setTop (mkF m 17 #[oI (1 : Int32), oI bits] [(.int (1 : Int32)), (.int (1 : Int32))]))
  refine Done.step (fun _ => XS.icmpNo X0.here hx rfl (hb hby d2_17) rfl (XT.ii_ne_f rfl)) ?_
  show Done _ p e below s _ _ (T0.setTop (mkF m 20 #[oI (1 : Int32), oI bits] []))
  obtain ⟨T1, h1, X1, e1, E1, A1, D1, -, st1⟩ := newO X0 hx hZ hown (wAt hw 9 rfl) (wAt hw 10 rfl) (wAt hw 11 rfl) e0 (g := (mkF m 20 #[oI (1 : Int32), oI bits] [])) rfl (hb hby d2_20) (by decide) (by decide)
  obtain ⟨b1, g1⟩ : ∃ z, z = h0.size := ⟨_, rfl⟩
  rw [← g1] at A1 D1 st1
  have n0_b1 : n0 ≤ b1 := by rw [g1]; exact Z0
  have sz_b1 : h0.size ≤ b1 := by rw [g1]; exact (Keep.refl h0 []).1
  have K1 := (Keep.refl h0 []).ext E1
  have Zs1 := Nat.le_trans Z0 E1.1
  have F_coder_b1 : Fld Z h1 b1 "java/lang/String" "coder" "B" (.int (0 : Int32)) := D1 (Or.inr (wAt hw 39 rfl)) (ty := .byte) (by decide)
  have F_value_b1 : Fld Z h1 b1 "java/lang/String" "value" "[B" .null := D1 (Or.inr (wAt hw 41 rfl)) (ty := (.array .byte)) (by decide)
  refine Done.step st1 ?_
  show Done _ p e below s _ _ (T1.setTop (mkF m 23 #[oI (1 : Int32), oI bits] [(.ref b1)]))
  refine Done.step (fun _ => XS.dup X1.here hx rfl (hb hby d2_23) rfl rfl) ?_
  show Done _ p e below s _ _ (T1.setTop (mkF m 24 #[oI (1 : Int32), oI bits] [(.ref b1), (.ref b1)]))
  refine Done.step (fun _ => XT.iconstV X1.here hx rfl (1 : Int32) (hb hby d2_24) (by decide)) ?_
  show Done _ p e below s _ _ (T1.setTop (mkF m 25 #[oI (1 : Int32), oI bits] [(.int (1 : Int32)), (.ref b1), (.ref b1)]))
  obtain ⟨T2, h2, k2, X2, e2, E2, A2, st2⟩ := newP X1 hx hZ (wAt hw 12 rfl) e1 (g := (mkF m 25 #[oI (1 : Int32), oI bits] [(.int (1 : Int32)), (.ref b1), (.ref b1)])) rfl (hb hby d2_25) rfl (by decide) (cap := 1) (by decide) (by decide) (by decide) (by decide)
  obtain ⟨b2, g2⟩ : ∃ z, z = h1.size := ⟨_, rfl⟩
  rw [← g2] at A2 st2
  have ne_b1_b2 : b1 ≠ b2 := by rw [g2]; exact Nat.ne_of_lt A1.lt
  have n0_b2 : n0 ≤ b2 := by rw [g2]; exact Zs1
  have sz_b2 : h0.size ≤ b2 := by rw [g2]; exact K1.1
  have K2 := K1.ext E2
  have Zs2 := Nat.le_trans Zs1 E2.1
  have V_b2 : Arv Z h2 b2 k2 .char (1 : Int32) [(.int (0 : Int32))] (.int (0 : Int32)) := (Arv.new A2 (by decide)).pad (pad_rep [] (.int (0 : Int32)) 1)
  refine Done.step st2 ?_
  show Done _ p e below s _ _ (T2.setTop (mkF m 27 #[oI (1 : Int32), oI bits] [(.ref b2), (.ref b1), (.ref b1)]))
  refine Done.step (fun _ => XS.dup X2.here hx rfl (hb hby d2_27) rfl rfl) ?_
  show Done _ p e below s _ _ (T2.setTop (mkF m 28 #[oI (1 : Int32), oI bits] [(.ref b2), (.ref b2), (.ref b1), (.ref b1)]))
  refine Done.step (fun _ => XT.iconstV X2.here hx rfl (0 : Int32) (hb hby d2_28) (by decide)) ?_
  show Done _ p e below s _ _ (T2.setTop (mkF m 29 #[oI (1 : Int32), oI bits] [(.int (0 : Int32)), (.ref b2), (.ref b2), (.ref b1), (.ref b1)]))
  refine Done.step (fun _ => XS.iloadN X2.here hx rfl (hb hby d2_29) rfl) ?_
  show Done _ p e below s _ _ (T2.setTop (mkF m 30 #[oI (1 : Int32), oI bits] [(.int bits), (.int (0 : Int32)), (.ref b2), (.ref b2), (.ref b1), (.ref b1)]))
  refine Done.step (fun _ => XT.iconstV X2.here hx rfl (0 : Int32) (hb hby d2_30) (by decide)) ?_
  show Done _ p e below s _ _ (T2.setTop (mkF m 31 #[oI (1 : Int32), oI bits] [(.int (0 : Int32)), (.int bits), (.int (0 : Int32)), (.ref b2), (.ref b2), (.ref b1), (.ref b1)]))
  refine Done.callSP X2 hx hZ hown (wAt hw 13 rfl) (wAt hw 14 rfl) (wAt hw 7 rfl) (wAt hw 15 rfl) (by decide) (rmCh l Z a0 hw [] bits (0 : Int32) h2 n0 Zs2) e2 (g := (mkF m 31 #[oI (1 : Int32), oI bits] [(.int (0 : Int32)), (.int bits), (.int (0 : Int32)), (.ref b2), (.ref b2), (.ref b1), (.ref b1)])) rfl (by rw [hml]; rfl) [(.int bits), (.int (0 : Int32))] [(.int (0 : Int32)), (.ref b2), (.ref b2), (.ref b1), (.ref b1)] 5 (lenOf pd_10 rfl) rfl rfl (by show 2 * 0 + _ ≤ _; exact Nat.le_of_eq rfl) (hb hby d2_31) (by decide) (by decide) (by decide) (by decide) rfl rfl ?_
  intro T3 X3 e3
  show Done _ p e below s _ _ (T3.setTop (mkF m 34 #[oI (1 : Int32), oI bits] [(.int (own_ch bits (0 : Int32))), (.int (0 : Int32)), (.ref b2), (.ref b2), (.ref b1), (.ref b1)]))
  obtain ⟨cl4, Ar4, q4, S4, Nn4, H4, G4⟩ := id V_b2
  have hin4 : ¬ ((0 : Int32) < 0 ∨ cl4.slots.size ≤ ((0 : Int32)).toNatClampNeg) := inb_of S4 ⟨by decide, by decide⟩
  obtain ⟨T4, h4, X4, e4, W4, st4⟩ := stC X3 hx hZ e3 Ar4 (j := (0 : Int32)) hin4 (g := (mkF m 34 #[oI (1 : Int32), oI bits] [(.int (own_ch bits (0 : Int32))), (.int (0 : Int32)), (.ref b2), (.ref b2), (.ref b1), (.ref b1)])) rfl rfl (hb hby d2_34)
  have V4 := Arv.set Ar4 q4 S4 Nn4 H4 G4 (fits_nar_char _) W4 0 rfl (Nat.le_of_ble_eq_true rfl)
  have N4 := Fr.snoc X4 N0 n0_b2
  have Zs4 := Nat.le_trans Zs2 (Keep.of_wr W4).1
  have K4 := K2.wr W4 (Or.inr sz_b2)
  refine Done.step st4 ?_
  show Done _ p e below s _ _ (T4.setTop (mkF m 35 #[oI (1 : Int32), oI bits] [(.ref b2), (.ref b1), (.ref b1)]))
  have Vs5 : Arv Z h4 b2 k2 .char (1 : Int32) (([nar .char (own_ch bits (0 : Int32))] : List Int32).map Value.int) (.int (0 : Int32)) := V4
  rw [own_chn bits (0 : Int32)] at Vs5
  have hp6 : ∀ c ∈ ([own_ch bits (0 : Int32)] : List Int32), ¬ c < 0 ∧ ¬ (255 : Int32) < c := (fun c hc => (List.mem_cons.mp hc).elim (fun e => e ▸ own_chb bits (0 : Int32)) ((fun c hc => absurd hc List.not_mem_nil) c))
  have hbd6 := own_up _ hp6
  have f7 := ((A1.ext E2).wr W4)
  have f8 := ((F_value_b1.ext E2).other W4 (Or.inl ne_b1_b2))
  have f9 := ((F_coder_b1.ext E2).other W4 (Or.inl ne_b1_b2))
  have f10 := (((O0.ext E1).ext E2).wr W4 n0_b2)
  refine Done.callIB (nc := 1) (ns := 1) X4 hx hZ rfl hown (wAt hw 16 rfl) (wAt hw 17 rfl) (wAt hw 18 rfl) (by decide) (StrChars.Road.backV (W := 1) hZ (own_hws hw) (kI := 4) (wAt hw 10 rfl) (cs := ([own_ch bits (0 : Int32)] : List Int32)) (bs := ((([own_ch bits (0 : Int32)] : List Int32)).map (fun c => c.toInt8.toInt32))) (n := 1) n0_b1 Zs4 f7 f8 f9 Vs5 (SC.ext f10.2) hz rfl rfl (by decide) (by decide) hp6 rfl (by decide) (by decide)) e4 (g := (mkF m 35 #[oI (1 : Int32), oI bits] [(.ref b2), (.ref b1), (.ref b1)])) rfl (by rw [hml]; rfl) b1 [(.ref b2)] [(.ref b1)] (lenOf pd_11 rfl) rfl rfl (by show 2 * 0 + _ ≤ _; exact Nat.le_of_eq rfl) (hb hby d2_35) (by decide) (by decide) ?_
  intro T6 v6 L6 X6 q6
  obtain ⟨rfl, Nq6, K6q, Eq6, Cq6, t6, kb6, n0_t6, szt6, net6, Vq6, Aq6⟩ := q6
  have ne_b1_t6 : b1 ≠ t6 := Ne.symm net6
  have ne_b2_t6 : b2 ≠ t6 := Nat.ne_of_lt (Nat.lt_of_lt_of_le V4.lt szt6)
  have sz_t6 : h0.size ≤ t6 := Nat.le_trans K4.1 szt6
  have N6 := Fr.app N4 Nq6
  have Zs6 := Nat.le_trans Zs4 K6q.1
  have K6 := K4.trans K6q (allS (Or.inr sz_b1) all0)
  have hcd6 : StrChars.Road.CodA ([own_ch bits (0 : Int32)] : List Int32) 0 (1 : Int32) ((((([own_ch bits (0 : Int32)] : List Int32)).map (fun c => c.toInt8.toInt32))).map Value.int) := StrChars.Road.codOf (n := 1) rfl (fun c hc => (hp6 c hc).2)
  show Done _ p e below s _ _ (T6.setTop (mkF m 38 #[oI (1 : Int32), oI bits] [(.ref b1)]))
  exact Done.retA (leavesF X6 hlk (by decide) (by decide)) X6 hx hret rfl rfl (hb hby d2_38) ⟨b1, t6, kb6, rfl, N6, K6, Eq6, Vq6, Cq6, Aq6⟩
theorem d2_39 : decode method_4_code 39 = .ok (.iload_n 0, 1) := by decide +kernel
theorem d2_40 : decode method_4_code 40 = .ok (.iconst 2, 1) := by decide +kernel
theorem d2_41 : decode method_4_code 41 = .ok (.if_icmp .ne 30, 3) := by decide +kernel
theorem d2_44 : decode method_4_code 44 = .ok (.new 38, 3) := by decide +kernel
theorem d2_47 : decode method_4_code 47 = .ok (.dup, 1) := by decide +kernel
theorem d2_48 : decode method_4_code 48 = .ok (.iconst 2, 1) := by decide +kernel
theorem d2_49 : decode method_4_code 49 = .ok (.newarray .char, 2) := by decide +kernel
theorem d2_51 : decode method_4_code 51 = .ok (.dup, 1) := by decide +kernel
theorem d2_52 : decode method_4_code 52 = .ok (.iconst 0, 1) := by decide +kernel
theorem d2_53 : decode method_4_code 53 = .ok (.iload_n 1, 1) := by decide +kernel
theorem d2_54 : decode method_4_code 54 = .ok (.iconst 0, 1) := by decide +kernel
theorem d2_55 : decode method_4_code 55 = .ok (.invokestatic 25, 3) := by decide +kernel
theorem d2_58 : decode method_4_code 58 = .ok (.castore, 1) := by decide +kernel
theorem d2_59 : decode method_4_code 59 = .ok (.dup, 1) := by decide +kernel
theorem d2_60 : decode method_4_code 60 = .ok (.iconst 1, 1) := by decide +kernel
theorem d2_61 : decode method_4_code 61 = .ok (.iload_n 1, 1) := by decide +kernel
theorem d2_62 : decode method_4_code 62 = .ok (.iconst 1, 1) := by decide +kernel
theorem d2_63 : decode method_4_code 63 = .ok (.invokestatic 25, 3) := by decide +kernel
theorem d2_66 : decode method_4_code 66 = .ok (.castore, 1) := by decide +kernel
theorem d2_67 : decode method_4_code 67 = .ok (.invokespecial 40, 3) := by decide +kernel
theorem d2_70 : decode method_4_code 70 = .ok (.areturn, 1) := by decide +kernel
set_option maxRecDepth 65536 in
set_option maxHeartbeats 40000000 in
theorem rmM2 (l : Launch) (Z : State) (a0 : Array Value) (hw : ∀ d ∈ tables_1, d.before a0 Z = true) (ws : List Jvm.Cond) (bits z : Int32) (h0 : Heap) (n0 : Nat) (Z0 : n0 ≤ h0.size) (O0 : Old Z n0 h0) (SC : Sta Z Z.heap "java/lang/String" "COMPACT_STRINGS" "Z" (.int z)) (hz : ¬ z = 0) :
    Ctr FrameEnd l Z (⟨"com/example/minho/minho/core/VersionedValueEqualsPinLaw", "mk", "(II)Ljava/lang/String;"⟩ : MethodName) method_4_code 2 (some (.object "java/lang/String")) ws ({ frames := 6, cells := 4, slots := 12, locals := 100 } : Room) #[(.int (2 : Int32)), (.int bits)] h0 TrueV (QM Z n0 h0 [own_ch bits (0 : Int32), own_ch bits (1 : Int32)]) := by
  refine Ctr.intro (plainFor_of_name pn_com_example_minho_minho_core_VersionedValueEqualsPinLaw) (Ls := #[.val (.int (2 : Int32)), .val (.int bits)]) (fun m => by first | (simp [entryFrame, mkF, argsToLocals, Value.category]; done) | rfl) ?_
  intro p e s m below meth c T0 hx hby hml hown hnm hret hlk hZ hV hsh e0 X0
  have N0 := Fr.nil n0
  show Done _ p e below s _ _ (T0.setTop (mkF m 0 #[oI (2 : Int32), oI bits] []))
  refine Done.step (fun _ => XS.iloadN X0.here hx rfl (hb hby d2_0) rfl) ?_
  show Done _ p e below s _ _ (T0.setTop (mkF m 1 #[oI (2 : Int32), oI bits] [(.int (2 : Int32))]))
  refine Done.step (fun _ => XS.ifYes X0.here hx rfl (pc0 := 1) (pc' := 15) rfl (hb hby d2_1) rfl (XT.i0_ne_t (by decide)) (by decide) (by decide)) ?_
  show Done _ p e below s _ _ (T0.setTop (mkF m 15 #[oI (2 : Int32), oI bits] []))
  refine Done.step (fun _ => XS.iloadN X0.here hx rfl (hb hby d2_15) rfl) ?_
  show Done _ p e below s _ _ (T0.setTop (mkF m 16 #[oI (2 : Int32), oI bits] [(.int (2 : Int32))]))
  refine Done.step (fun _ => XT.iconstV X0.here hx rfl (1 : Int32) (hb hby d2_16) (by decide)) ?_
  show Done _ p e below s _ _ (T0.setTop (mkF m 17 #[oI (2 : Int32), oI bits] [(.int (1 : Int32)), (.int (2 : Int32))]))
  refine Done.step (fun _ => XS.icmpYes X0.here hx rfl (pc0 := 17) (pc' := 39) rfl (hb hby d2_17) rfl (XT.ii_ne_t (by decide)) (by decide) (by decide)) ?_
  show Done _ p e below s _ _ (T0.setTop (mkF m 39 #[oI (2 : Int32), oI bits] []))
  refine Done.step (fun _ => XS.iloadN X0.here hx rfl (hb hby d2_39) rfl) ?_
  show Done _ p e below s _ _ (T0.setTop (mkF m 40 #[oI (2 : Int32), oI bits] [(.int (2 : Int32))]))
  refine Done.step (fun _ => XT.iconstV X0.here hx rfl (2 : Int32) (hb hby d2_40) (by decide)) ?_
  show Done _ p e below s _ _ (T0.setTop (mkF m 41 #[oI (2 : Int32), oI bits] [(.int (2 : Int32)), (.int (2 : Int32))]))
  refine Done.step (fun _ => XS.icmpNo X0.here hx rfl (hb hby d2_41) rfl (XT.ii_ne_f rfl)) ?_
  show Done _ p e below s _ _ (T0.setTop (mkF m 44 #[oI (2 : Int32), oI bits] []))
  obtain ⟨T1, h1, X1, e1, E1, A1, D1, -, st1⟩ := newO X0 hx hZ hown (wAt hw 9 rfl) (wAt hw 10 rfl) (wAt hw 11 rfl) e0 (g := (mkF m 44 #[oI (2 : Int32), oI bits] [])) rfl (hb hby d2_44) (by decide) (by decide)
  obtain ⟨b1, g1⟩ : ∃ z, z = h0.size := ⟨_, rfl⟩
  rw [← g1] at A1 D1 st1
  have n0_b1 : n0 ≤ b1 := by rw [g1]; exact Z0
  have sz_b1 : h0.size ≤ b1 := by rw [g1]; exact (Keep.refl h0 []).1
  have K1 := (Keep.refl h0 []).ext E1
  have Zs1 := Nat.le_trans Z0 E1.1
  have F_coder_b1 : Fld Z h1 b1 "java/lang/String" "coder" "B" (.int (0 : Int32)) := D1 (Or.inr (wAt hw 39 rfl)) (ty := .byte) (by decide)
  have F_value_b1 : Fld Z h1 b1 "java/lang/String" "value" "[B" .null := D1 (Or.inr (wAt hw 41 rfl)) (ty := (.array .byte)) (by decide)
  refine Done.step st1 ?_
  show Done _ p e below s _ _ (T1.setTop (mkF m 47 #[oI (2 : Int32), oI bits] [(.ref b1)]))
  refine Done.step (fun _ => XS.dup X1.here hx rfl (hb hby d2_47) rfl rfl) ?_
  show Done _ p e below s _ _ (T1.setTop (mkF m 48 #[oI (2 : Int32), oI bits] [(.ref b1), (.ref b1)]))
  refine Done.step (fun _ => XT.iconstV X1.here hx rfl (2 : Int32) (hb hby d2_48) (by decide)) ?_
  show Done _ p e below s _ _ (T1.setTop (mkF m 49 #[oI (2 : Int32), oI bits] [(.int (2 : Int32)), (.ref b1), (.ref b1)]))
  obtain ⟨T2, h2, k2, X2, e2, E2, A2, st2⟩ := newP X1 hx hZ (wAt hw 12 rfl) e1 (g := (mkF m 49 #[oI (2 : Int32), oI bits] [(.int (2 : Int32)), (.ref b1), (.ref b1)])) rfl (hb hby d2_49) rfl (by decide) (cap := 2) (by decide) (by decide) (by decide) (by decide)
  obtain ⟨b2, g2⟩ : ∃ z, z = h1.size := ⟨_, rfl⟩
  rw [← g2] at A2 st2
  have ne_b1_b2 : b1 ≠ b2 := by rw [g2]; exact Nat.ne_of_lt A1.lt
  have n0_b2 : n0 ≤ b2 := by rw [g2]; exact Zs1
  have sz_b2 : h0.size ≤ b2 := by rw [g2]; exact K1.1
  have K2 := K1.ext E2
  have Zs2 := Nat.le_trans Zs1 E2.1
  have V_b2 : Arv Z h2 b2 k2 .char (2 : Int32) [(.int (0 : Int32)), (.int (0 : Int32))] (.int (0 : Int32)) := (Arv.new A2 (by decide)).pad (pad_rep [] (.int (0 : Int32)) 2)
  refine Done.step st2 ?_
  show Done _ p e below s _ _ (T2.setTop (mkF m 51 #[oI (2 : Int32), oI bits] [(.ref b2), (.ref b1), (.ref b1)]))
  refine Done.step (fun _ => XS.dup X2.here hx rfl (hb hby d2_51) rfl rfl) ?_
  show Done _ p e below s _ _ (T2.setTop (mkF m 52 #[oI (2 : Int32), oI bits] [(.ref b2), (.ref b2), (.ref b1), (.ref b1)]))
  refine Done.step (fun _ => XT.iconstV X2.here hx rfl (0 : Int32) (hb hby d2_52) (by decide)) ?_
  show Done _ p e below s _ _ (T2.setTop (mkF m 53 #[oI (2 : Int32), oI bits] [(.int (0 : Int32)), (.ref b2), (.ref b2), (.ref b1), (.ref b1)]))
  refine Done.step (fun _ => XS.iloadN X2.here hx rfl (hb hby d2_53) rfl) ?_
  show Done _ p e below s _ _ (T2.setTop (mkF m 54 #[oI (2 : Int32), oI bits] [(.int bits), (.int (0 : Int32)), (.ref b2), (.ref b2), (.ref b1), (.ref b1)]))
  refine Done.step (fun _ => XT.iconstV X2.here hx rfl (0 : Int32) (hb hby d2_54) (by decide)) ?_
  show Done _ p e below s _ _ (T2.setTop (mkF m 55 #[oI (2 : Int32), oI bits] [(.int (0 : Int32)), (.int bits), (.int (0 : Int32)), (.ref b2), (.ref b2), (.ref b1), (.ref b1)]))
  refine Done.callSP X2 hx hZ hown (wAt hw 13 rfl) (wAt hw 14 rfl) (wAt hw 7 rfl) (wAt hw 15 rfl) (by decide) (rmCh l Z a0 hw [] bits (0 : Int32) h2 n0 Zs2) e2 (g := (mkF m 55 #[oI (2 : Int32), oI bits] [(.int (0 : Int32)), (.int bits), (.int (0 : Int32)), (.ref b2), (.ref b2), (.ref b1), (.ref b1)])) rfl (by rw [hml]; rfl) [(.int bits), (.int (0 : Int32))] [(.int (0 : Int32)), (.ref b2), (.ref b2), (.ref b1), (.ref b1)] 5 (lenOf pd_10 rfl) rfl rfl (by show 2 * 0 + _ ≤ _; exact Nat.le_of_eq rfl) (hb hby d2_55) (by decide) (by decide) (by decide) (by decide) rfl rfl ?_
  intro T3 X3 e3
  show Done _ p e below s _ _ (T3.setTop (mkF m 58 #[oI (2 : Int32), oI bits] [(.int (own_ch bits (0 : Int32))), (.int (0 : Int32)), (.ref b2), (.ref b2), (.ref b1), (.ref b1)]))
  obtain ⟨cl4, Ar4, q4, S4, Nn4, H4, G4⟩ := id V_b2
  have hin4 : ¬ ((0 : Int32) < 0 ∨ cl4.slots.size ≤ ((0 : Int32)).toNatClampNeg) := inb_of S4 ⟨by decide, by decide⟩
  obtain ⟨T4, h4, X4, e4, W4, st4⟩ := stC X3 hx hZ e3 Ar4 (j := (0 : Int32)) hin4 (g := (mkF m 58 #[oI (2 : Int32), oI bits] [(.int (own_ch bits (0 : Int32))), (.int (0 : Int32)), (.ref b2), (.ref b2), (.ref b1), (.ref b1)])) rfl rfl (hb hby d2_58)
  have V4 := Arv.set Ar4 q4 S4 Nn4 H4 G4 (fits_nar_char _) W4 0 rfl (Nat.le_of_ble_eq_true rfl)
  have N4 := Fr.snoc X4 N0 n0_b2
  have Zs4 := Nat.le_trans Zs2 (Keep.of_wr W4).1
  have K4 := K2.wr W4 (Or.inr sz_b2)
  refine Done.step st4 ?_
  show Done _ p e below s _ _ (T4.setTop (mkF m 59 #[oI (2 : Int32), oI bits] [(.ref b2), (.ref b1), (.ref b1)]))
  refine Done.step (fun _ => XS.dup X4.here hx rfl (hb hby d2_59) rfl rfl) ?_
  show Done _ p e below s _ _ (T4.setTop (mkF m 60 #[oI (2 : Int32), oI bits] [(.ref b2), (.ref b2), (.ref b1), (.ref b1)]))
  refine Done.step (fun _ => XT.iconstV X4.here hx rfl (1 : Int32) (hb hby d2_60) (by decide)) ?_
  show Done _ p e below s _ _ (T4.setTop (mkF m 61 #[oI (2 : Int32), oI bits] [(.int (1 : Int32)), (.ref b2), (.ref b2), (.ref b1), (.ref b1)]))
  refine Done.step (fun _ => XS.iloadN X4.here hx rfl (hb hby d2_61) rfl) ?_
  show Done _ p e below s _ _ (T4.setTop (mkF m 62 #[oI (2 : Int32), oI bits] [(.int bits), (.int (1 : Int32)), (.ref b2), (.ref b2), (.ref b1), (.ref b1)]))
  refine Done.step (fun _ => XT.iconstV X4.here hx rfl (1 : Int32) (hb hby d2_62) (by decide)) ?_
  show Done _ p e below s _ _ (T4.setTop (mkF m 63 #[oI (2 : Int32), oI bits] [(.int (1 : Int32)), (.int bits), (.int (1 : Int32)), (.ref b2), (.ref b2), (.ref b1), (.ref b1)]))
  refine Done.callSP X4 hx hZ hown (wAt hw 13 rfl) (wAt hw 14 rfl) (wAt hw 7 rfl) (wAt hw 15 rfl) (by decide) (rmCh l Z a0 hw [] bits (1 : Int32) h4 n0 Zs4) e4 (g := (mkF m 63 #[oI (2 : Int32), oI bits] [(.int (1 : Int32)), (.int bits), (.int (1 : Int32)), (.ref b2), (.ref b2), (.ref b1), (.ref b1)])) rfl (by rw [hml]; rfl) [(.int bits), (.int (1 : Int32))] [(.int (1 : Int32)), (.ref b2), (.ref b2), (.ref b1), (.ref b1)] 5 (lenOf pd_10 rfl) rfl rfl (by show 2 * 0 + _ ≤ _; exact Nat.le_of_eq rfl) (hb hby d2_63) (by decide) (by decide) (by decide) (by decide) rfl rfl ?_
  intro T5 X5 e5
  show Done _ p e below s _ _ (T5.setTop (mkF m 66 #[oI (2 : Int32), oI bits] [(.int (own_ch bits (1 : Int32))), (.int (1 : Int32)), (.ref b2), (.ref b2), (.ref b1), (.ref b1)]))
  obtain ⟨cl6, Ar6, q6, S6, Nn6, H6, G6⟩ := id V4
  have hin6 : ¬ ((1 : Int32) < 0 ∨ cl6.slots.size ≤ ((1 : Int32)).toNatClampNeg) := inb_of S6 ⟨by decide, by decide⟩
  obtain ⟨T6, h6, X6, e6, W6, st6⟩ := stC X5 hx hZ e5 Ar6 (j := (1 : Int32)) hin6 (g := (mkF m 66 #[oI (2 : Int32), oI bits] [(.int (own_ch bits (1 : Int32))), (.int (1 : Int32)), (.ref b2), (.ref b2), (.ref b1), (.ref b1)])) rfl rfl (hb hby d2_66)
  have V6 := Arv.set Ar6 q6 S6 Nn6 H6 G6 (fits_nar_char _) W6 1 rfl (Nat.le_of_ble_eq_true rfl)
  have N6 := Fr.snoc X6 N4 n0_b2
  have Zs6 := Nat.le_trans Zs4 (Keep.of_wr W6).1
  have K6 := K4.wr W6 (Or.inr sz_b2)
  refine Done.step st6 ?_
  show Done _ p e below s _ _ (T6.setTop (mkF m 67 #[oI (2 : Int32), oI bits] [(.ref b2), (.ref b1), (.ref b1)]))
  have Vs7 : Arv Z h6 b2 k2 .char (2 : Int32) (([nar .char (own_ch bits (0 : Int32)), nar .char (own_ch bits (1 : Int32))] : List Int32).map Value.int) (.int (0 : Int32)) := V6
  rw [own_chn bits (0 : Int32), own_chn bits (1 : Int32)] at Vs7
  have hp8 : ∀ c ∈ ([own_ch bits (0 : Int32), own_ch bits (1 : Int32)] : List Int32), ¬ c < 0 ∧ ¬ (255 : Int32) < c := (fun c hc => (List.mem_cons.mp hc).elim (fun e => e ▸ own_chb bits (0 : Int32)) ((fun c hc => (List.mem_cons.mp hc).elim (fun e => e ▸ own_chb bits (1 : Int32)) ((fun c hc => absurd hc List.not_mem_nil) c)) c))
  have hbd8 := own_up _ hp8
  have f9 := (((A1.ext E2).wr W4).wr W6)
  have f10 := (((F_value_b1.ext E2).other W4 (Or.inl ne_b1_b2)).other W6 (Or.inl ne_b1_b2))
  have f11 := (((F_coder_b1.ext E2).other W4 (Or.inl ne_b1_b2)).other W6 (Or.inl ne_b1_b2))
  have f12 := ((((O0.ext E1).ext E2).wr W4 n0_b2).wr W6 n0_b2)
  refine Done.callIB (nc := 1) (ns := 2) X6 hx hZ rfl hown (wAt hw 16 rfl) (wAt hw 17 rfl) (wAt hw 18 rfl) (by decide) (StrChars.Road.backV (W := 1) hZ (own_hws hw) (kI := 4) (wAt hw 10 rfl) (cs := ([own_ch bits (0 : Int32), own_ch bits (1 : Int32)] : List Int32)) (bs := ((([own_ch bits (0 : Int32), own_ch bits (1 : Int32)] : List Int32)).map (fun c => c.toInt8.toInt32))) (n := 2) n0_b1 Zs6 f9 f10 f11 Vs7 (SC.ext f12.2) hz rfl rfl (by decide) (by decide) hp8 rfl (by decide) (by decide)) e6 (g := (mkF m 67 #[oI (2 : Int32), oI bits] [(.ref b2), (.ref b1), (.ref b1)])) rfl (by rw [hml]; rfl) b1 [(.ref b2)] [(.ref b1)] (lenOf pd_11 rfl) rfl rfl (by show 2 * 0 + _ ≤ _; exact Nat.le_of_eq rfl) (hb hby d2_67) (by decide) (by decide) ?_
  intro T8 v8 L8 X8 q8
  obtain ⟨rfl, Nq8, K8q, Eq8, Cq8, t8, kb8, n0_t8, szt8, net8, Vq8, Aq8⟩ := q8
  have ne_b1_t8 : b1 ≠ t8 := Ne.symm net8
  have ne_b2_t8 : b2 ≠ t8 := Nat.ne_of_lt (Nat.lt_of_lt_of_le V6.lt szt8)
  have sz_t8 : h0.size ≤ t8 := Nat.le_trans K6.1 szt8
  have N8 := Fr.app N6 Nq8
  have Zs8 := Nat.le_trans Zs6 K8q.1
  have K8 := K6.trans K8q (allS (Or.inr sz_b1) all0)
  have hcd8 : StrChars.Road.CodA ([own_ch bits (0 : Int32), own_ch bits (1 : Int32)] : List Int32) 0 (2 : Int32) ((((([own_ch bits (0 : Int32), own_ch bits (1 : Int32)] : List Int32)).map (fun c => c.toInt8.toInt32))).map Value.int) := StrChars.Road.codOf (n := 2) rfl (fun c hc => (hp8 c hc).2)
  show Done _ p e below s _ _ (T8.setTop (mkF m 70 #[oI (2 : Int32), oI bits] [(.ref b1)]))
  exact Done.retA (leavesF X8 hlk (by decide) (by decide)) X8 hx hret rfl rfl (hb hby d2_70) ⟨b1, t8, kb8, rfl, N8, K8, Eq8, Vq8, Cq8, Aq8⟩
theorem d2_71 : decode method_4_code 71 = .ok (.new 38, 3) := by decide +kernel
theorem d2_74 : decode method_4_code 74 = .ok (.dup, 1) := by decide +kernel
theorem d2_75 : decode method_4_code 75 = .ok (.iconst 3, 1) := by decide +kernel
theorem d2_76 : decode method_4_code 76 = .ok (.newarray .char, 2) := by decide +kernel
theorem d2_78 : decode method_4_code 78 = .ok (.dup, 1) := by decide +kernel
theorem d2_79 : decode method_4_code 79 = .ok (.iconst 0, 1) := by decide +kernel
theorem d2_80 : decode method_4_code 80 = .ok (.iload_n 1, 1) := by decide +kernel
theorem d2_81 : decode method_4_code 81 = .ok (.iconst 0, 1) := by decide +kernel
theorem d2_82 : decode method_4_code 82 = .ok (.invokestatic 25, 3) := by decide +kernel
theorem d2_85 : decode method_4_code 85 = .ok (.castore, 1) := by decide +kernel
theorem d2_86 : decode method_4_code 86 = .ok (.dup, 1) := by decide +kernel
theorem d2_87 : decode method_4_code 87 = .ok (.iconst 1, 1) := by decide +kernel
theorem d2_88 : decode method_4_code 88 = .ok (.iload_n 1, 1) := by decide +kernel
theorem d2_89 : decode method_4_code 89 = .ok (.iconst 1, 1) := by decide +kernel
theorem d2_90 : decode method_4_code 90 = .ok (.invokestatic 25, 3) := by decide +kernel
theorem d2_93 : decode method_4_code 93 = .ok (.castore, 1) := by decide +kernel
theorem d2_94 : decode method_4_code 94 = .ok (.dup, 1) := by decide +kernel
theorem d2_95 : decode method_4_code 95 = .ok (.iconst 2, 1) := by decide +kernel
theorem d2_96 : decode method_4_code 96 = .ok (.iload_n 1, 1) := by decide +kernel
theorem d2_97 : decode method_4_code 97 = .ok (.iconst 2, 1) := by decide +kernel
theorem d2_98 : decode method_4_code 98 = .ok (.invokestatic 25, 3) := by decide +kernel
theorem d2_101 : decode method_4_code 101 = .ok (.castore, 1) := by decide +kernel
theorem d2_102 : decode method_4_code 102 = .ok (.invokespecial 40, 3) := by decide +kernel
theorem d2_105 : decode method_4_code 105 = .ok (.areturn, 1) := by decide +kernel
set_option maxRecDepth 65536 in
set_option maxHeartbeats 40000000 in
theorem rmM3 (l : Launch) (Z : State) (a0 : Array Value) (hw : ∀ d ∈ tables_1, d.before a0 Z = true) (ws : List Jvm.Cond) (bits z : Int32) (h0 : Heap) (n0 : Nat) (Z0 : n0 ≤ h0.size) (O0 : Old Z n0 h0) (SC : Sta Z Z.heap "java/lang/String" "COMPACT_STRINGS" "Z" (.int z)) (hz : ¬ z = 0) :
    Ctr FrameEnd l Z (⟨"com/example/minho/minho/core/VersionedValueEqualsPinLaw", "mk", "(II)Ljava/lang/String;"⟩ : MethodName) method_4_code 2 (some (.object "java/lang/String")) ws ({ frames := 6, cells := 4, slots := 12, locals := 100 } : Room) #[(.int (3 : Int32)), (.int bits)] h0 TrueV (QM Z n0 h0 [own_ch bits (0 : Int32), own_ch bits (1 : Int32), own_ch bits (2 : Int32)]) := by
  refine Ctr.intro (plainFor_of_name pn_com_example_minho_minho_core_VersionedValueEqualsPinLaw) (Ls := #[.val (.int (3 : Int32)), .val (.int bits)]) (fun m => by first | (simp [entryFrame, mkF, argsToLocals, Value.category]; done) | rfl) ?_
  intro p e s m below meth c T0 hx hby hml hown hnm hret hlk hZ hV hsh e0 X0
  have N0 := Fr.nil n0
  show Done _ p e below s _ _ (T0.setTop (mkF m 0 #[oI (3 : Int32), oI bits] []))
  refine Done.step (fun _ => XS.iloadN X0.here hx rfl (hb hby d2_0) rfl) ?_
  show Done _ p e below s _ _ (T0.setTop (mkF m 1 #[oI (3 : Int32), oI bits] [(.int (3 : Int32))]))
  refine Done.step (fun _ => XS.ifYes X0.here hx rfl (pc0 := 1) (pc' := 15) rfl (hb hby d2_1) rfl (XT.i0_ne_t (by decide)) (by decide) (by decide)) ?_
  show Done _ p e below s _ _ (T0.setTop (mkF m 15 #[oI (3 : Int32), oI bits] []))
  refine Done.step (fun _ => XS.iloadN X0.here hx rfl (hb hby d2_15) rfl) ?_
  show Done _ p e below s _ _ (T0.setTop (mkF m 16 #[oI (3 : Int32), oI bits] [(.int (3 : Int32))]))
  refine Done.step (fun _ => XT.iconstV X0.here hx rfl (1 : Int32) (hb hby d2_16) (by decide)) ?_
  show Done _ p e below s _ _ (T0.setTop (mkF m 17 #[oI (3 : Int32), oI bits] [(.int (1 : Int32)), (.int (3 : Int32))]))
  refine Done.step (fun _ => XS.icmpYes X0.here hx rfl (pc0 := 17) (pc' := 39) rfl (hb hby d2_17) rfl (XT.ii_ne_t (by decide)) (by decide) (by decide)) ?_
  show Done _ p e below s _ _ (T0.setTop (mkF m 39 #[oI (3 : Int32), oI bits] []))
  refine Done.step (fun _ => XS.iloadN X0.here hx rfl (hb hby d2_39) rfl) ?_
  show Done _ p e below s _ _ (T0.setTop (mkF m 40 #[oI (3 : Int32), oI bits] [(.int (3 : Int32))]))
  refine Done.step (fun _ => XT.iconstV X0.here hx rfl (2 : Int32) (hb hby d2_40) (by decide)) ?_
  show Done _ p e below s _ _ (T0.setTop (mkF m 41 #[oI (3 : Int32), oI bits] [(.int (2 : Int32)), (.int (3 : Int32))]))
  refine Done.step (fun _ => XS.icmpYes X0.here hx rfl (pc0 := 41) (pc' := 71) rfl (hb hby d2_41) rfl (XT.ii_ne_t (by decide)) (by decide) (by decide)) ?_
  show Done _ p e below s _ _ (T0.setTop (mkF m 71 #[oI (3 : Int32), oI bits] []))
  obtain ⟨T1, h1, X1, e1, E1, A1, D1, -, st1⟩ := newO X0 hx hZ hown (wAt hw 9 rfl) (wAt hw 10 rfl) (wAt hw 11 rfl) e0 (g := (mkF m 71 #[oI (3 : Int32), oI bits] [])) rfl (hb hby d2_71) (by decide) (by decide)
  obtain ⟨b1, g1⟩ : ∃ z, z = h0.size := ⟨_, rfl⟩
  rw [← g1] at A1 D1 st1
  have n0_b1 : n0 ≤ b1 := by rw [g1]; exact Z0
  have sz_b1 : h0.size ≤ b1 := by rw [g1]; exact (Keep.refl h0 []).1
  have K1 := (Keep.refl h0 []).ext E1
  have Zs1 := Nat.le_trans Z0 E1.1
  have F_coder_b1 : Fld Z h1 b1 "java/lang/String" "coder" "B" (.int (0 : Int32)) := D1 (Or.inr (wAt hw 39 rfl)) (ty := .byte) (by decide)
  have F_value_b1 : Fld Z h1 b1 "java/lang/String" "value" "[B" .null := D1 (Or.inr (wAt hw 41 rfl)) (ty := (.array .byte)) (by decide)
  refine Done.step st1 ?_
  show Done _ p e below s _ _ (T1.setTop (mkF m 74 #[oI (3 : Int32), oI bits] [(.ref b1)]))
  refine Done.step (fun _ => XS.dup X1.here hx rfl (hb hby d2_74) rfl rfl) ?_
  show Done _ p e below s _ _ (T1.setTop (mkF m 75 #[oI (3 : Int32), oI bits] [(.ref b1), (.ref b1)]))
  refine Done.step (fun _ => XT.iconstV X1.here hx rfl (3 : Int32) (hb hby d2_75) (by decide)) ?_
  show Done _ p e below s _ _ (T1.setTop (mkF m 76 #[oI (3 : Int32), oI bits] [(.int (3 : Int32)), (.ref b1), (.ref b1)]))
  obtain ⟨T2, h2, k2, X2, e2, E2, A2, st2⟩ := newP X1 hx hZ (wAt hw 12 rfl) e1 (g := (mkF m 76 #[oI (3 : Int32), oI bits] [(.int (3 : Int32)), (.ref b1), (.ref b1)])) rfl (hb hby d2_76) rfl (by decide) (cap := 3) (by decide) (by decide) (by decide) (by decide)
  obtain ⟨b2, g2⟩ : ∃ z, z = h1.size := ⟨_, rfl⟩
  rw [← g2] at A2 st2
  have ne_b1_b2 : b1 ≠ b2 := by rw [g2]; exact Nat.ne_of_lt A1.lt
  have n0_b2 : n0 ≤ b2 := by rw [g2]; exact Zs1
  have sz_b2 : h0.size ≤ b2 := by rw [g2]; exact K1.1
  have K2 := K1.ext E2
  have Zs2 := Nat.le_trans Zs1 E2.1
  have V_b2 : Arv Z h2 b2 k2 .char (3 : Int32) [(.int (0 : Int32)), (.int (0 : Int32)), (.int (0 : Int32))] (.int (0 : Int32)) := (Arv.new A2 (by decide)).pad (pad_rep [] (.int (0 : Int32)) 3)
  refine Done.step st2 ?_
  show Done _ p e below s _ _ (T2.setTop (mkF m 78 #[oI (3 : Int32), oI bits] [(.ref b2), (.ref b1), (.ref b1)]))
  refine Done.step (fun _ => XS.dup X2.here hx rfl (hb hby d2_78) rfl rfl) ?_
  show Done _ p e below s _ _ (T2.setTop (mkF m 79 #[oI (3 : Int32), oI bits] [(.ref b2), (.ref b2), (.ref b1), (.ref b1)]))
  refine Done.step (fun _ => XT.iconstV X2.here hx rfl (0 : Int32) (hb hby d2_79) (by decide)) ?_
  show Done _ p e below s _ _ (T2.setTop (mkF m 80 #[oI (3 : Int32), oI bits] [(.int (0 : Int32)), (.ref b2), (.ref b2), (.ref b1), (.ref b1)]))
  refine Done.step (fun _ => XS.iloadN X2.here hx rfl (hb hby d2_80) rfl) ?_
  show Done _ p e below s _ _ (T2.setTop (mkF m 81 #[oI (3 : Int32), oI bits] [(.int bits), (.int (0 : Int32)), (.ref b2), (.ref b2), (.ref b1), (.ref b1)]))
  refine Done.step (fun _ => XT.iconstV X2.here hx rfl (0 : Int32) (hb hby d2_81) (by decide)) ?_
  show Done _ p e below s _ _ (T2.setTop (mkF m 82 #[oI (3 : Int32), oI bits] [(.int (0 : Int32)), (.int bits), (.int (0 : Int32)), (.ref b2), (.ref b2), (.ref b1), (.ref b1)]))
  refine Done.callSP X2 hx hZ hown (wAt hw 13 rfl) (wAt hw 14 rfl) (wAt hw 7 rfl) (wAt hw 15 rfl) (by decide) (rmCh l Z a0 hw [] bits (0 : Int32) h2 n0 Zs2) e2 (g := (mkF m 82 #[oI (3 : Int32), oI bits] [(.int (0 : Int32)), (.int bits), (.int (0 : Int32)), (.ref b2), (.ref b2), (.ref b1), (.ref b1)])) rfl (by rw [hml]; rfl) [(.int bits), (.int (0 : Int32))] [(.int (0 : Int32)), (.ref b2), (.ref b2), (.ref b1), (.ref b1)] 5 (lenOf pd_10 rfl) rfl rfl (by show 2 * 0 + _ ≤ _; exact Nat.le_of_eq rfl) (hb hby d2_82) (by decide) (by decide) (by decide) (by decide) rfl rfl ?_
  intro T3 X3 e3
  show Done _ p e below s _ _ (T3.setTop (mkF m 85 #[oI (3 : Int32), oI bits] [(.int (own_ch bits (0 : Int32))), (.int (0 : Int32)), (.ref b2), (.ref b2), (.ref b1), (.ref b1)]))
  obtain ⟨cl4, Ar4, q4, S4, Nn4, H4, G4⟩ := id V_b2
  have hin4 : ¬ ((0 : Int32) < 0 ∨ cl4.slots.size ≤ ((0 : Int32)).toNatClampNeg) := inb_of S4 ⟨by decide, by decide⟩
  obtain ⟨T4, h4, X4, e4, W4, st4⟩ := stC X3 hx hZ e3 Ar4 (j := (0 : Int32)) hin4 (g := (mkF m 85 #[oI (3 : Int32), oI bits] [(.int (own_ch bits (0 : Int32))), (.int (0 : Int32)), (.ref b2), (.ref b2), (.ref b1), (.ref b1)])) rfl rfl (hb hby d2_85)
  have V4 := Arv.set Ar4 q4 S4 Nn4 H4 G4 (fits_nar_char _) W4 0 rfl (Nat.le_of_ble_eq_true rfl)
  have N4 := Fr.snoc X4 N0 n0_b2
  have Zs4 := Nat.le_trans Zs2 (Keep.of_wr W4).1
  have K4 := K2.wr W4 (Or.inr sz_b2)
  refine Done.step st4 ?_
  show Done _ p e below s _ _ (T4.setTop (mkF m 86 #[oI (3 : Int32), oI bits] [(.ref b2), (.ref b1), (.ref b1)]))
  refine Done.step (fun _ => XS.dup X4.here hx rfl (hb hby d2_86) rfl rfl) ?_
  show Done _ p e below s _ _ (T4.setTop (mkF m 87 #[oI (3 : Int32), oI bits] [(.ref b2), (.ref b2), (.ref b1), (.ref b1)]))
  refine Done.step (fun _ => XT.iconstV X4.here hx rfl (1 : Int32) (hb hby d2_87) (by decide)) ?_
  show Done _ p e below s _ _ (T4.setTop (mkF m 88 #[oI (3 : Int32), oI bits] [(.int (1 : Int32)), (.ref b2), (.ref b2), (.ref b1), (.ref b1)]))
  refine Done.step (fun _ => XS.iloadN X4.here hx rfl (hb hby d2_88) rfl) ?_
  show Done _ p e below s _ _ (T4.setTop (mkF m 89 #[oI (3 : Int32), oI bits] [(.int bits), (.int (1 : Int32)), (.ref b2), (.ref b2), (.ref b1), (.ref b1)]))
  refine Done.step (fun _ => XT.iconstV X4.here hx rfl (1 : Int32) (hb hby d2_89) (by decide)) ?_
  show Done _ p e below s _ _ (T4.setTop (mkF m 90 #[oI (3 : Int32), oI bits] [(.int (1 : Int32)), (.int bits), (.int (1 : Int32)), (.ref b2), (.ref b2), (.ref b1), (.ref b1)]))
  refine Done.callSP X4 hx hZ hown (wAt hw 13 rfl) (wAt hw 14 rfl) (wAt hw 7 rfl) (wAt hw 15 rfl) (by decide) (rmCh l Z a0 hw [] bits (1 : Int32) h4 n0 Zs4) e4 (g := (mkF m 90 #[oI (3 : Int32), oI bits] [(.int (1 : Int32)), (.int bits), (.int (1 : Int32)), (.ref b2), (.ref b2), (.ref b1), (.ref b1)])) rfl (by rw [hml]; rfl) [(.int bits), (.int (1 : Int32))] [(.int (1 : Int32)), (.ref b2), (.ref b2), (.ref b1), (.ref b1)] 5 (lenOf pd_10 rfl) rfl rfl (by show 2 * 0 + _ ≤ _; exact Nat.le_of_eq rfl) (hb hby d2_90) (by decide) (by decide) (by decide) (by decide) rfl rfl ?_
  intro T5 X5 e5
  show Done _ p e below s _ _ (T5.setTop (mkF m 93 #[oI (3 : Int32), oI bits] [(.int (own_ch bits (1 : Int32))), (.int (1 : Int32)), (.ref b2), (.ref b2), (.ref b1), (.ref b1)]))
  obtain ⟨cl6, Ar6, q6, S6, Nn6, H6, G6⟩ := id V4
  have hin6 : ¬ ((1 : Int32) < 0 ∨ cl6.slots.size ≤ ((1 : Int32)).toNatClampNeg) := inb_of S6 ⟨by decide, by decide⟩
  obtain ⟨T6, h6, X6, e6, W6, st6⟩ := stC X5 hx hZ e5 Ar6 (j := (1 : Int32)) hin6 (g := (mkF m 93 #[oI (3 : Int32), oI bits] [(.int (own_ch bits (1 : Int32))), (.int (1 : Int32)), (.ref b2), (.ref b2), (.ref b1), (.ref b1)])) rfl rfl (hb hby d2_93)
  have V6 := Arv.set Ar6 q6 S6 Nn6 H6 G6 (fits_nar_char _) W6 1 rfl (Nat.le_of_ble_eq_true rfl)
  have N6 := Fr.snoc X6 N4 n0_b2
  have Zs6 := Nat.le_trans Zs4 (Keep.of_wr W6).1
  have K6 := K4.wr W6 (Or.inr sz_b2)
  refine Done.step st6 ?_
  show Done _ p e below s _ _ (T6.setTop (mkF m 94 #[oI (3 : Int32), oI bits] [(.ref b2), (.ref b1), (.ref b1)]))
  refine Done.step (fun _ => XS.dup X6.here hx rfl (hb hby d2_94) rfl rfl) ?_
  show Done _ p e below s _ _ (T6.setTop (mkF m 95 #[oI (3 : Int32), oI bits] [(.ref b2), (.ref b2), (.ref b1), (.ref b1)]))
  refine Done.step (fun _ => XT.iconstV X6.here hx rfl (2 : Int32) (hb hby d2_95) (by decide)) ?_
  show Done _ p e below s _ _ (T6.setTop (mkF m 96 #[oI (3 : Int32), oI bits] [(.int (2 : Int32)), (.ref b2), (.ref b2), (.ref b1), (.ref b1)]))
  refine Done.step (fun _ => XS.iloadN X6.here hx rfl (hb hby d2_96) rfl) ?_
  show Done _ p e below s _ _ (T6.setTop (mkF m 97 #[oI (3 : Int32), oI bits] [(.int bits), (.int (2 : Int32)), (.ref b2), (.ref b2), (.ref b1), (.ref b1)]))
  refine Done.step (fun _ => XT.iconstV X6.here hx rfl (2 : Int32) (hb hby d2_97) (by decide)) ?_
  show Done _ p e below s _ _ (T6.setTop (mkF m 98 #[oI (3 : Int32), oI bits] [(.int (2 : Int32)), (.int bits), (.int (2 : Int32)), (.ref b2), (.ref b2), (.ref b1), (.ref b1)]))
  refine Done.callSP X6 hx hZ hown (wAt hw 13 rfl) (wAt hw 14 rfl) (wAt hw 7 rfl) (wAt hw 15 rfl) (by decide) (rmCh l Z a0 hw [] bits (2 : Int32) h6 n0 Zs6) e6 (g := (mkF m 98 #[oI (3 : Int32), oI bits] [(.int (2 : Int32)), (.int bits), (.int (2 : Int32)), (.ref b2), (.ref b2), (.ref b1), (.ref b1)])) rfl (by rw [hml]; rfl) [(.int bits), (.int (2 : Int32))] [(.int (2 : Int32)), (.ref b2), (.ref b2), (.ref b1), (.ref b1)] 5 (lenOf pd_10 rfl) rfl rfl (by show 2 * 0 + _ ≤ _; exact Nat.le_of_eq rfl) (hb hby d2_98) (by decide) (by decide) (by decide) (by decide) rfl rfl ?_
  intro T7 X7 e7
  show Done _ p e below s _ _ (T7.setTop (mkF m 101 #[oI (3 : Int32), oI bits] [(.int (own_ch bits (2 : Int32))), (.int (2 : Int32)), (.ref b2), (.ref b2), (.ref b1), (.ref b1)]))
  obtain ⟨cl8, Ar8, q8, S8, Nn8, H8, G8⟩ := id V6
  have hin8 : ¬ ((2 : Int32) < 0 ∨ cl8.slots.size ≤ ((2 : Int32)).toNatClampNeg) := inb_of S8 ⟨by decide, by decide⟩
  obtain ⟨T8, h8, X8, e8, W8, st8⟩ := stC X7 hx hZ e7 Ar8 (j := (2 : Int32)) hin8 (g := (mkF m 101 #[oI (3 : Int32), oI bits] [(.int (own_ch bits (2 : Int32))), (.int (2 : Int32)), (.ref b2), (.ref b2), (.ref b1), (.ref b1)])) rfl rfl (hb hby d2_101)
  have V8 := Arv.set Ar8 q8 S8 Nn8 H8 G8 (fits_nar_char _) W8 2 rfl (Nat.le_of_ble_eq_true rfl)
  have N8 := Fr.snoc X8 N6 n0_b2
  have Zs8 := Nat.le_trans Zs6 (Keep.of_wr W8).1
  have K8 := K6.wr W8 (Or.inr sz_b2)
  refine Done.step st8 ?_
  show Done _ p e below s _ _ (T8.setTop (mkF m 102 #[oI (3 : Int32), oI bits] [(.ref b2), (.ref b1), (.ref b1)]))
  have Vs9 : Arv Z h8 b2 k2 .char (3 : Int32) (([nar .char (own_ch bits (0 : Int32)), nar .char (own_ch bits (1 : Int32)), nar .char (own_ch bits (2 : Int32))] : List Int32).map Value.int) (.int (0 : Int32)) := V8
  rw [own_chn bits (0 : Int32), own_chn bits (1 : Int32), own_chn bits (2 : Int32)] at Vs9
  have hp10 : ∀ c ∈ ([own_ch bits (0 : Int32), own_ch bits (1 : Int32), own_ch bits (2 : Int32)] : List Int32), ¬ c < 0 ∧ ¬ (255 : Int32) < c := (fun c hc => (List.mem_cons.mp hc).elim (fun e => e ▸ own_chb bits (0 : Int32)) ((fun c hc => (List.mem_cons.mp hc).elim (fun e => e ▸ own_chb bits (1 : Int32)) ((fun c hc => (List.mem_cons.mp hc).elim (fun e => e ▸ own_chb bits (2 : Int32)) ((fun c hc => absurd hc List.not_mem_nil) c)) c)) c))
  have hbd10 := own_up _ hp10
  have f11 := ((((A1.ext E2).wr W4).wr W6).wr W8)
  have f12 := ((((F_value_b1.ext E2).other W4 (Or.inl ne_b1_b2)).other W6 (Or.inl ne_b1_b2)).other W8 (Or.inl ne_b1_b2))
  have f13 := ((((F_coder_b1.ext E2).other W4 (Or.inl ne_b1_b2)).other W6 (Or.inl ne_b1_b2)).other W8 (Or.inl ne_b1_b2))
  have f14 := (((((O0.ext E1).ext E2).wr W4 n0_b2).wr W6 n0_b2).wr W8 n0_b2)
  refine Done.callIB (nc := 1) (ns := 3) X8 hx hZ rfl hown (wAt hw 16 rfl) (wAt hw 17 rfl) (wAt hw 18 rfl) (by decide) (StrChars.Road.backV (W := 1) hZ (own_hws hw) (kI := 4) (wAt hw 10 rfl) (cs := ([own_ch bits (0 : Int32), own_ch bits (1 : Int32), own_ch bits (2 : Int32)] : List Int32)) (bs := ((([own_ch bits (0 : Int32), own_ch bits (1 : Int32), own_ch bits (2 : Int32)] : List Int32)).map (fun c => c.toInt8.toInt32))) (n := 3) n0_b1 Zs8 f11 f12 f13 Vs9 (SC.ext f14.2) hz rfl rfl (by decide) (by decide) hp10 rfl (by decide) (by decide)) e8 (g := (mkF m 102 #[oI (3 : Int32), oI bits] [(.ref b2), (.ref b1), (.ref b1)])) rfl (by rw [hml]; rfl) b1 [(.ref b2)] [(.ref b1)] (lenOf pd_11 rfl) rfl rfl (by show 2 * 0 + _ ≤ _; exact Nat.le_of_eq rfl) (hb hby d2_102) (by decide) (by decide) ?_
  intro T10 v10 L10 X10 q10
  obtain ⟨rfl, Nq10, K10q, Eq10, Cq10, t10, kb10, n0_t10, szt10, net10, Vq10, Aq10⟩ := q10
  have ne_b1_t10 : b1 ≠ t10 := Ne.symm net10
  have ne_b2_t10 : b2 ≠ t10 := Nat.ne_of_lt (Nat.lt_of_lt_of_le V8.lt szt10)
  have sz_t10 : h0.size ≤ t10 := Nat.le_trans K8.1 szt10
  have N10 := Fr.app N8 Nq10
  have Zs10 := Nat.le_trans Zs8 K10q.1
  have K10 := K8.trans K10q (allS (Or.inr sz_b1) all0)
  have hcd10 : StrChars.Road.CodA ([own_ch bits (0 : Int32), own_ch bits (1 : Int32), own_ch bits (2 : Int32)] : List Int32) 0 (3 : Int32) ((((([own_ch bits (0 : Int32), own_ch bits (1 : Int32), own_ch bits (2 : Int32)] : List Int32)).map (fun c => c.toInt8.toInt32))).map Value.int) := StrChars.Road.codOf (n := 3) rfl (fun c hc => (hp10 c hc).2)
  show Done _ p e below s _ _ (T10.setTop (mkF m 105 #[oI (3 : Int32), oI bits] [(.ref b1)]))
  exact Done.retA (leavesF X10 hlk (by decide) (by decide)) X10 hx hret rfl rfl (hb hby d2_105) ⟨b1, t10, kb10, rfl, N10, K10, Eq10, Vq10, Cq10, Aq10⟩
theorem d2_4 : decode method_4_code 4 = .ok (.new 38, 3) := by decide +kernel
theorem d2_7 : decode method_4_code 7 = .ok (.dup, 1) := by decide +kernel
theorem d2_8 : decode method_4_code 8 = .ok (.iconst 0, 1) := by decide +kernel
theorem d2_9 : decode method_4_code 9 = .ok (.newarray .char, 2) := by decide +kernel
theorem d2_11 : decode method_4_code 11 = .ok (.invokespecial 40, 3) := by decide +kernel
theorem d2_14 : decode method_4_code 14 = .ok (.areturn, 1) := by decide +kernel
set_option maxRecDepth 65536 in
set_option maxHeartbeats 40000000 in
theorem rmM0 (l : Launch) (Z : State) (a0 : Array Value) (hw : ∀ d ∈ tables_1, d.before a0 Z = true) (ws : List Jvm.Cond) (bits z : Int32) (h0 : Heap) (n0 : Nat) (Z0 : n0 ≤ h0.size) (O0 : Old Z n0 h0) (SC : Sta Z Z.heap "java/lang/String" "COMPACT_STRINGS" "Z" (.int z)) (hz : ¬ z = 0) (hh : Jvm.Lit.constHeld Z "java/lang/String" 7) (hcw : Jvm.Lit.compactW.before a0 Z = true) :
    Ctr ReturnedEndW l Z (⟨"com/example/minho/minho/core/VersionedValueEqualsPinLaw", "mk", "(II)Ljava/lang/String;"⟩ : MethodName) method_4_code 2 (some (.object "java/lang/String")) ws ({ frames := 6, cells := 4, slots := 12, locals := 100 } : Room) #[(.int (0 : Int32)), (.int bits)] h0 (fun vm => IB Z vm []) (QM0 Z n0 h0) := by
  refine Ctr.intro (plainFor_of_name pn_com_example_minho_minho_core_VersionedValueEqualsPinLaw) (Ls := #[.val (.int (0 : Int32)), .val (.int bits)]) (fun m => by first | (simp [entryFrame, mkF, argsToLocals, Value.category]; done) | rfl) ?_
  intro p e s m below meth c T0 hx hby hml hown hnm hret hlk hZ hV hsh e0 X0
  have N0 := Fr.nil n0
  have hS : s.Since s.vm 0 := (State.WarmedH.refl s).since 0
  have hk : 0 ≤ h0.size := Nat.zero_le _
  have X0 : Stand p l e ({ frames := 6, cells := 4, slots := 12, locals := 100 } : Room) (s.setVm s.vm) m #[(.int (0 : Int32)), (.int bits)] below meth c T0 [] 0 0 := X0
  have hZ : Z.Warmed39 (s.setVm s.vm).vm := hZ
  have hown : (s.setVm s.vm).vm.findClass "com/example/minho/minho/core/VersionedValueEqualsPinLaw" = some m.cls := hown
  show Done _ p e below s _ _ (T0.setTop (mkF m 0 #[oI (0 : Int32), oI bits] []))
  refine Done.step (fun _ => XS.iloadN X0.here hx rfl (hb hby d2_0) rfl) ?_
  show Done _ p e below s _ _ (T0.setTop (mkF m 1 #[oI (0 : Int32), oI bits] [(.int (0 : Int32))]))
  refine Done.step (fun _ => XS.ifNo X0.here hx rfl (hb hby d2_1) rfl (XT.i0_ne_f rfl)) ?_
  show Done _ p e below s _ _ (T0.setTop (mkF m 4 #[oI (0 : Int32), oI bits] []))
  obtain ⟨T1, h1, X1, e1, E1, A1, D1, -, st1⟩ := newO X0 hx hZ hown (wAt hw 9 rfl) (wAt hw 10 rfl) (wAt hw 11 rfl) e0 (g := (mkF m 4 #[oI (0 : Int32), oI bits] [])) rfl (hb hby d2_4) (by decide) (by decide)
  obtain ⟨b1, g1⟩ : ∃ z, z = h0.size := ⟨_, rfl⟩
  rw [← g1] at A1 D1 st1
  have n0_b1 : n0 ≤ b1 := by rw [g1]; exact Z0
  have sz_b1 : h0.size ≤ b1 := by rw [g1]; exact (Keep.refl h0 []).1
  have K1 := (Keep.refl h0 []).ext E1
  have Zs1 := Nat.le_trans Z0 E1.1
  have hk := Nat.le_trans hk E1.1
  have F_coder_b1 : Fld Z h1 b1 "java/lang/String" "coder" "B" (.int (0 : Int32)) := D1 (Or.inr (wAt hw 39 rfl)) (ty := .byte) (by decide)
  have F_value_b1 : Fld Z h1 b1 "java/lang/String" "value" "[B" .null := D1 (Or.inr (wAt hw 41 rfl)) (ty := (.array .byte)) (by decide)
  refine Done.step st1 ?_
  show Done _ p e below s _ _ (T1.setTop (mkF m 7 #[oI (0 : Int32), oI bits] [(.ref b1)]))
  refine Done.step (fun _ => XS.dup X1.here hx rfl (hb hby d2_7) rfl rfl) ?_
  show Done _ p e below s _ _ (T1.setTop (mkF m 8 #[oI (0 : Int32), oI bits] [(.ref b1), (.ref b1)]))
  refine Done.step (fun _ => XT.iconstV X1.here hx rfl (0 : Int32) (hb hby d2_8) (by decide)) ?_
  show Done _ p e below s _ _ (T1.setTop (mkF m 9 #[oI (0 : Int32), oI bits] [(.int (0 : Int32)), (.ref b1), (.ref b1)]))
  obtain ⟨T2, h2, k2, X2, e2, E2, A2, st2⟩ := newP X1 hx hZ (wAt hw 12 rfl) e1 (g := (mkF m 9 #[oI (0 : Int32), oI bits] [(.int (0 : Int32)), (.ref b1), (.ref b1)])) rfl (hb hby d2_9) rfl (by decide) (cap := 0) (by decide) (by decide) (by decide) (by decide)
  obtain ⟨b2, g2⟩ : ∃ z, z = h1.size := ⟨_, rfl⟩
  rw [← g2] at A2 st2
  have ne_b1_b2 : b1 ≠ b2 := by rw [g2]; exact Nat.ne_of_lt A1.lt
  have n0_b2 : n0 ≤ b2 := by rw [g2]; exact Zs1
  have sz_b2 : h0.size ≤ b2 := by rw [g2]; exact K1.1
  have K2 := K1.ext E2
  have Zs2 := Nat.le_trans Zs1 E2.1
  have hk := Nat.le_trans hk E2.1
  have V_b2 : Arv Z h2 b2 k2 .char (0 : Int32) [] (.int (0 : Int32)) := Arv.new A2 (by decide)
  refine Done.step st2 ?_
  show Done _ p e below s _ _ (T2.setTop (mkF m 11 #[oI (0 : Int32), oI bits] [(.ref b2), (.ref b1), (.ref b1)]))
  have f3 := (A1.ext E2)
  have f4 := (F_value_b1.ext E2)
  have f5 := (F_coder_b1.ext E2)
  have f6 := ((O0.ext E1).ext E2)
  refine Done.callIW X2 hx hZ rfl hown hS hk (wAt hw 16 rfl) (wAt hw 17 rfl) (wAt hw 11 rfl) (wAt hw 18 rfl) (by decide) (rmZ l Z a0 hw [] b1 b2 k2 h2 n0 Zs2 V_b2 f3 f4 f5 n0_b1 f6 hh hcw) (fun vm' hW => own_ibV hV hW) e2 (g := (mkF m 11 #[oI (0 : Int32), oI bits] [(.ref b2), (.ref b1), (.ref b1)])) rfl (by rw [hml]; rfl) b1 [(.ref b2)] [(.ref b1)] 1 (lenOf pd_11 rfl) rfl rfl (by show 2 * 0 + _ ≤ _; exact Nat.le_of_eq rfl) (hb hby d2_11) (by decide) (by decide) (by decide) (by decide) ?_
  intro T7 v7 L7 X7 hS hZ hown hW7 q7
  have hk := Nat.le_refl T7.heap.size
  obtain ⟨rfl, Nq7, K7q, aaq, bbq, kkq, IBqq, LTqq, FAvq, FAcq, FBqq, naxq, nbxq, Exqq, Fvqq, Fcqq⟩ := q7
  have N7 := Fr.app N0 Nq7
  have Zs7 := Nat.le_trans Zs2 K7q.1
  have K7 := K2.trans K7q (allS (Or.inr sz_b1) all0)
  show Done _ p e below s _ _ (T7.setTop (mkF m 14 #[oI (0 : Int32), oI bits] [(.ref b1)]))
  exact Done.retA (leavesW X7 hS (by first | exact hk | (rw [rfl]; exact hk)) hlk (by decide) (by decide)) X7 hx hret rfl rfl (hb hby d2_14) ⟨b1, rfl, N7, K7, aaq, bbq, kkq, (own_lit X7 (own_litS LTqq)), FAvq, FAcq, FBqq, Exqq, Fvqq, Fcqq⟩
set_option maxRecDepth 65536 in
set_option maxHeartbeats 40000000 in
theorem rmM0b (l : Launch) (Z : State) (a0 : Array Value) (hw : ∀ d ∈ tables_1, d.before a0 Z = true) (ws : List Jvm.Cond) (bits z : Int32) (aa bb : Addr) (kk : ClassId) (h0 : Heap) (n0 : Nat) (Z0 : n0 ≤ h0.size) (O0 : Old Z n0 h0) (SC : Sta Z Z.heap "java/lang/String" "COMPACT_STRINGS" "Z" (.int z)) (hz : ¬ z = 0) (FA1 : Fld Z h0 aa "java/lang/String" "value" "[B" (.ref bb)) (FA2 : Fld Z h0 aa "java/lang/String" "coder" "B" (.int (0 : Int32))) (FB : Arv Z h0 bb kk .byte (0 : Int32) [] (.int 0)) :
    Ctr ReturnedEndW l Z (⟨"com/example/minho/minho/core/VersionedValueEqualsPinLaw", "mk", "(II)Ljava/lang/String;"⟩ : MethodName) method_4_code 2 (some (.object "java/lang/String")) ws ({ frames := 6, cells := 4, slots := 12, locals := 100 } : Room) #[(.int (0 : Int32)), (.int bits)] h0 (fun vm => Lit (Z.setVm vm) "java/lang/String" 7 aa) (QM1 Z n0 h0 bb) := by
  refine Ctr.intro (plainFor_of_name pn_com_example_minho_minho_core_VersionedValueEqualsPinLaw) (Ls := #[.val (.int (0 : Int32)), .val (.int bits)]) (fun m => by first | (simp [entryFrame, mkF, argsToLocals, Value.category]; done) | rfl) ?_
  intro p e s m below meth c T0 hx hby hml hown hnm hret hlk hZ hV hsh e0 X0
  have N0 := Fr.nil n0
  have hS : s.Since s.vm 0 := (State.WarmedH.refl s).since 0
  have hk : 0 ≤ h0.size := Nat.zero_le _
  have X0 : Stand p l e ({ frames := 6, cells := 4, slots := 12, locals := 100 } : Room) (s.setVm s.vm) m #[(.int (0 : Int32)), (.int bits)] below meth c T0 [] 0 0 := X0
  have hZ : Z.Warmed39 (s.setVm s.vm).vm := hZ
  have hown : (s.setVm s.vm).vm.findClass "com/example/minho/minho/core/VersionedValueEqualsPinLaw" = some m.cls := hown
  show Done _ p e below s _ _ (T0.setTop (mkF m 0 #[oI (0 : Int32), oI bits] []))
  refine Done.step (fun _ => XS.iloadN X0.here hx rfl (hb hby d2_0) rfl) ?_
  show Done _ p e below s _ _ (T0.setTop (mkF m 1 #[oI (0 : Int32), oI bits] [(.int (0 : Int32))]))
  refine Done.step (fun _ => XS.ifNo X0.here hx rfl (hb hby d2_1) rfl (XT.i0_ne_f rfl)) ?_
  show Done _ p e below s _ _ (T0.setTop (mkF m 4 #[oI (0 : Int32), oI bits] []))
  obtain ⟨T1, h1, X1, e1, E1, A1, D1, -, st1⟩ := newO X0 hx hZ hown (wAt hw 9 rfl) (wAt hw 10 rfl) (wAt hw 11 rfl) e0 (g := (mkF m 4 #[oI (0 : Int32), oI bits] [])) rfl (hb hby d2_4) (by decide) (by decide)
  obtain ⟨b1, g1⟩ : ∃ z, z = h0.size := ⟨_, rfl⟩
  rw [← g1] at A1 D1 st1
  have ne_aa_b1 : aa ≠ b1 := by rw [g1]; exact Nat.ne_of_lt FA1.lt
  have ne_bb_b1 : bb ≠ b1 := by rw [g1]; exact Nat.ne_of_lt FB.lt
  have n0_b1 : n0 ≤ b1 := by rw [g1]; exact Z0
  have sz_b1 : h0.size ≤ b1 := by rw [g1]; exact (Keep.refl h0 []).1
  have K1 := (Keep.refl h0 []).ext E1
  have Zs1 := Nat.le_trans Z0 E1.1
  have hk := Nat.le_trans hk E1.1
  have F_coder_b1 : Fld Z h1 b1 "java/lang/String" "coder" "B" (.int (0 : Int32)) := D1 (Or.inr (wAt hw 39 rfl)) (ty := .byte) (by decide)
  have F_value_b1 : Fld Z h1 b1 "java/lang/String" "value" "[B" .null := D1 (Or.inr (wAt hw 41 rfl)) (ty := (.array .byte)) (by decide)
  refine Done.step st1 ?_
  show Done _ p e below s _ _ (T1.setTop (mkF m 7 #[oI (0 : Int32), oI bits] [(.ref b1)]))
  refine Done.step (fun _ => XS.dup X1.here hx rfl (hb hby d2_7) rfl rfl) ?_
  show Done _ p e below s _ _ (T1.setTop (mkF m 8 #[oI (0 : Int32), oI bits] [(.ref b1), (.ref b1)]))
  refine Done.step (fun _ => XT.iconstV X1.here hx rfl (0 : Int32) (hb hby d2_8) (by decide)) ?_
  show Done _ p e below s _ _ (T1.setTop (mkF m 9 #[oI (0 : Int32), oI bits] [(.int (0 : Int32)), (.ref b1), (.ref b1)]))
  obtain ⟨T2, h2, k2, X2, e2, E2, A2, st2⟩ := newP X1 hx hZ (wAt hw 12 rfl) e1 (g := (mkF m 9 #[oI (0 : Int32), oI bits] [(.int (0 : Int32)), (.ref b1), (.ref b1)])) rfl (hb hby d2_9) rfl (by decide) (cap := 0) (by decide) (by decide) (by decide) (by decide)
  obtain ⟨b2, g2⟩ : ∃ z, z = h1.size := ⟨_, rfl⟩
  rw [← g2] at A2 st2
  have f3 := (FA1.ext E1)
  have ne_aa_b2 : aa ≠ b2 := by rw [g2]; exact Nat.ne_of_lt f3.lt
  have f4 := (FB.ext E1)
  have ne_bb_b2 : bb ≠ b2 := by rw [g2]; exact Nat.ne_of_lt f4.lt
  have ne_b1_b2 : b1 ≠ b2 := by rw [g2]; exact Nat.ne_of_lt A1.lt
  have n0_b2 : n0 ≤ b2 := by rw [g2]; exact Zs1
  have sz_b2 : h0.size ≤ b2 := by rw [g2]; exact K1.1
  have K2 := K1.ext E2
  have Zs2 := Nat.le_trans Zs1 E2.1
  have hk := Nat.le_trans hk E2.1
  have V_b2 : Arv Z h2 b2 k2 .char (0 : Int32) [] (.int (0 : Int32)) := Arv.new A2 (by decide)
  refine Done.step st2 ?_
  show Done _ p e below s _ _ (T2.setTop (mkF m 11 #[oI (0 : Int32), oI bits] [(.ref b2), (.ref b1), (.ref b1)]))
  have f5 := (A1.ext E2)
  have f6 := (F_value_b1.ext E2)
  have f7 := (F_coder_b1.ext E2)
  have f8 := ((O0.ext E1).ext E2)
  have f9 := (f3.ext E2)
  have f10 := ((FA2.ext E1).ext E2)
  have f11 := (f4.ext E2)
  refine Done.callIW X2 hx hZ rfl hown hS hk (wAt hw 16 rfl) (wAt hw 17 rfl) (wAt hw 11 rfl) (wAt hw 18 rfl) (by decide) (rmY l Z a0 hw [] b1 b2 aa bb kk k2 h2 n0 Zs2 V_b2 f5 f6 f7 n0_b1 f8 f9 f10 f11) (fun vm' hW => own_litV hV hW) e2 (g := (mkF m 11 #[oI (0 : Int32), oI bits] [(.ref b2), (.ref b1), (.ref b1)])) rfl (by rw [hml]; rfl) b1 [(.ref b2)] [(.ref b1)] 1 (lenOf pd_11 rfl) rfl rfl (by show 2 * 0 + _ ≤ _; exact Nat.le_of_eq rfl) (hb hby d2_11) (by decide) (by decide) (by decide) (by decide) ?_
  intro T12 v12 L12 X12 hS hZ hown hW12 q12
  have hk := Nat.le_refl T12.heap.size
  obtain ⟨rfl, Nq12, K12q, Exqq, Fvqq, Fcqq⟩ := q12
  have N12 := Fr.app N0 Nq12
  have Zs12 := Nat.le_trans Zs2 K12q.1
  have K12 := K2.trans K12q (allS (Or.inr sz_b1) all0)
  show Done _ p e below s _ _ (T12.setTop (mkF m 14 #[oI (0 : Int32), oI bits] [(.ref b1)]))
  exact Done.retA (leavesW X12 hS (by first | exact hk | (rw [rfl]; exact hk)) hlk (by decide) (by decide)) X12 hx hret rfl rfl (hb hby d2_14) ⟨b1, rfl, N12, K12, Exqq, Fvqq, Fcqq⟩
theorem own_bpc (A B : List Int32) (p q : Int64) : bP (p = q ∧ A = B) = bP (q = p ∧ B = A) := by
  by_cases h : p = q ∧ A = B
  · rw [bP_t h, bP_t ⟨h.1.symm, h.2.symm⟩]
  · rw [bP_f h, bP_f fun g => h ⟨g.1.symm, g.2.symm⟩]
theorem pd_12 : parseMethodDescriptor "(Ljava/lang/String;J)V" = some ⟨[(.object "java/lang/String"), .long], none⟩ := by decide +kernel
set_option maxRecDepth 65536 in
set_option maxHeartbeats 40000000 in
theorem tl250 {p : Program} {l : Launch} {e : Env} {s : State} {m : MethodId} {args : Array Value} {below : List Frame} {meth : Method} {c : Code} {T0 : State} {locs : List Loc} {vm0 : Vm} {k0 : Nat} (Z : State) (a0 : Array Value) (hw : ∀ d ∈ tables_1, d.before a0 Z = true) (a b ver1 ver2 : Int64) (c1 c2 mode lens vm l1 l2 d sm ex : Int32) (x1 t1 : Addr) (kb1 : ClassId) (cs1 : List Int32) (x2 t2 : Addr) (kb2 : ClassId) (cs2 : List Int32) (z : Int32) (fm : Value) (h0 : Heap) (n0 : Nat) (Z0 : n0 ≤ h0.size) (O0 : Old Z n0 h0) (SC : Sta Z Z.heap "java/lang/String" "COMPACT_STRINGS" "Z" (.int z)) (hz : ¬ z = 0) (SF : Sta Z Z.heap "jdk/internal/util/Preconditions" "SIOOBE_FORMATTER" "Ljava/util/function/BiFunction;" fm) (rF : fm.isRef = true) (gE1 : Exa Z h0 x1 "java/lang/String") (gV1 : Fld Z h0 x1 "java/lang/String" "value" "[B" (.ref t1)) (gC1 : Fld Z h0 x1 "java/lang/String" "coder" "B" (.int (0 : Int32))) (gK1 : Arv Z h0 t1 kb1 .byte (Int32.ofNat cs1.length) ((cs1.map (fun c => c.toInt8.toInt32)).map Value.int) (.int 0)) (gE2 : Exa Z h0 x2 "java/lang/String") (gV2 : Fld Z h0 x2 "java/lang/String" "value" "[B" (.ref t2)) (gC2 : Fld Z h0 x2 "java/lang/String" "coder" "B" (.int (0 : Int32))) (gK2 : Arv Z h0 t2 kb2 .byte (Int32.ofNat cs2.length) ((cs2.map (fun c => c.toInt8.toInt32)).map Value.int) (.int 0)) (hp1 : ∀ c ∈ cs1, ¬ c < 0 ∧ ¬ (255 : Int32) < c) (hl1 : cs1.length ≤ 3) (hp2 : ∀ c ∈ cs2, ¬ c < 0 ∧ ¬ (255 : Int32) < c) (hl2 : cs2.length ≤ 3) (hv1 : ¬ ver1 < (1 : Int64)) (hv2 : ¬ ver2 < (1 : Int64)) (hex : ex = bP (ver2 = ver1 ∧ cs2 = cs1))
    (hx : p.tables.exec = Jvm.exec) (hby : c.code = code) (hml : c.maxLocals = 22) (hown : (s.setVm vm0).vm.findClass "com/example/minho/minho/core/VersionedValueEqualsPinLaw" = some m.cls) (hret : meth.sig.returnType = (some .boolean)) (hlk : meth.locks = false) (hZ : Z.Warmed39 (s.setVm vm0).vm) (hS : s.Since vm0 k0) (hk : k0 ≤ h0.size) (e0 : T0.heap = h0)
    (X0 : Stand p l e room_1 (s.setVm vm0) m args below meth c T0 locs 8 24) (N0 : Fr n0 locs) : Done ReturnedEndW p e below s room_1 (LawQ n0) (T0.setTop (mkF m 250 #[oJ a, .second, oJ b, .second, oI c1, oI c2, oI mode, oI lens, oJ ver1, .second, oI vm, oJ ver2, .second, oI l1, oI l2, oI d, oR x1, oR x2, oI sm, oI ex, .unset, .unset] [])) := by
  show Done _ p e below s _ _ (T0.setTop (mkF m 250 #[oJ a, .second, oJ b, .second, oI c1, oI c2, oI mode, oI lens, oJ ver1, .second, oI vm, oJ ver2, .second, oI l1, oI l2, oI d, oR x1, oR x2, oI sm, oI ex, .unset, .unset] []))
  obtain ⟨T1, h1, X1, e1, E1, A1, D1, -, st1⟩ := newO X0 hx hZ hown (wAt hw 45 rfl) (wAt hw 46 rfl) (wAt hw 47 rfl) e0 (g := (mkF m 250 #[oJ a, .second, oJ b, .second, oI c1, oI c2, oI mode, oI lens, oJ ver1, .second, oI vm, oJ ver2, .second, oI l1, oI l2, oI d, oR x1, oR x2, oI sm, oI ex, .unset, .unset] [])) rfl (hb hby at_250) (by decide) (by decide)
  obtain ⟨b1, g1⟩ : ∃ z, z = h0.size := ⟨_, rfl⟩
  rw [← g1] at A1 D1 st1
  have ne_x1_b1 : x1 ≠ b1 := by rw [g1]; exact Nat.ne_of_lt gE1.lt
  have ne_t1_b1 : t1 ≠ b1 := by rw [g1]; exact Nat.ne_of_lt gK1.lt
  have ne_x2_b1 : x2 ≠ b1 := by rw [g1]; exact Nat.ne_of_lt gE2.lt
  have ne_t2_b1 : t2 ≠ b1 := by rw [g1]; exact Nat.ne_of_lt gK2.lt
  have n0_b1 : n0 ≤ b1 := by rw [g1]; exact Z0
  have Zs1 := Nat.le_trans Z0 E1.1
  have hk := Nat.le_trans hk E1.1
  have F_m_value_b1 : Fld Z h1 b1 "com/example/minho/minho/core/VersionedValue" "m_value" "Ljava/lang/String;" .null := D1 (Or.inr (wAt hw 98 rfl)) (ty := (.object "java/lang/String")) (by decide)
  have F_m_version_b1 : Fld Z h1 b1 "com/example/minho/minho/core/VersionedValue" "m_version" "J" (.long (0 : Int64)) := D1 (Or.inr (wAt hw 100 rfl)) (ty := .long) (by decide)
  refine Done.step st1 ?_
  show Done _ p e below s _ _ (T1.setTop (mkF m 253 #[oJ a, .second, oJ b, .second, oI c1, oI c2, oI mode, oI lens, oJ ver1, .second, oI vm, oJ ver2, .second, oI l1, oI l2, oI d, oR x1, oR x2, oI sm, oI ex, .unset, .unset] [(.ref b1)]))
  refine Done.step (fun _ => XS.dup X1.here hx rfl (hb hby at_253) rfl rfl) ?_
  show Done _ p e below s _ _ (T1.setTop (mkF m 254 #[oJ a, .second, oJ b, .second, oI c1, oI c2, oI mode, oI lens, oJ ver1, .second, oI vm, oJ ver2, .second, oI l1, oI l2, oI d, oR x1, oR x2, oI sm, oI ex, .unset, .unset] [(.ref b1), (.ref b1)]))
  refine Done.step (fun _ => XS.aload X1.here hx rfl (hb hby at_254) rfl rfl) ?_
  show Done _ p e below s _ _ (T1.setTop (mkF m 256 #[oJ a, .second, oJ b, .second, oI c1, oI c2, oI mode, oI lens, oJ ver1, .second, oI vm, oJ ver2, .second, oI l1, oI l2, oI d, oR x1, oR x2, oI sm, oI ex, .unset, .unset] [(.ref x1), (.ref b1), (.ref b1)]))
  refine Done.step (fun _ => XT.lload X1.here hx rfl (hb hby at_256) rfl) ?_
  show Done _ p e below s _ _ (T1.setTop (mkF m 258 #[oJ a, .second, oJ b, .second, oI c1, oI c2, oI mode, oI lens, oJ ver1, .second, oI vm, oJ ver2, .second, oI l1, oI l2, oI d, oR x1, oR x2, oI sm, oI ex, .unset, .unset] [(.long ver1), (.ref x1), (.ref b1), (.ref b1)]))
  have f2 := (gE1.ext E1)
  have f3 := (gV1.ext E1)
  have f4 := (gC1.ext E1)
  have f5 := (gK1.ext E1)
  have f6 := (O0.ext E1)
  refine Done.callI X1 hx hZ rfl hown (wAt hw 48 rfl) (wAt hw 49 rfl) (wAt hw 47 rfl) (wAt hw 50 rfl) (by decide) (rmV l Z a0 hw [] b1 x1 t1 kb1 cs1 ver1 z fm h1 n0 Zs1 A1 F_m_value_b1 F_m_version_b1 n0_b1 f2 f3 f4 f5 (Ne.symm ne_x1_b1) (Ne.symm ne_t1_b1) f6 SC hz SF rF hp1 hl1 hv1) (fun _ _ => trivial) e1 (g := (mkF m 258 #[oJ a, .second, oJ b, .second, oI c1, oI c2, oI mode, oI lens, oJ ver1, .second, oI vm, oJ ver2, .second, oI l1, oI l2, oI d, oR x1, oR x2, oI sm, oI ex, .unset, .unset] [(.long ver1), (.ref x1), (.ref b1), (.ref b1)])) rfl (by rw [hml]; rfl) b1 [(.ref x1), (.long ver1)] [(.ref b1)] 1 (lenOf pd_12 rfl) rfl rfl (by show 2 * 0 + _ ≤ _; exact Nat.le_of_eq rfl) (hb hby at_258) (by decide) (by decide) (by decide) (by decide) ?_
  intro T7 v7 L7 X7 q7
  obtain ⟨rfl, Nq7, K7q, f7_0, f7_1, f7_2⟩ := q7
  have N7 := Fr.app N0 Nq7
  have Zs7 := Nat.le_trans Zs1 K7q.1
  have hk := Nat.le_trans hk K7q.1
  show Done _ p e below s _ _ (T7.setTop (mkF m 261 #[oJ a, .second, oJ b, .second, oI c1, oI c2, oI mode, oI lens, oJ ver1, .second, oI vm, oJ ver2, .second, oI l1, oI l2, oI d, oR x1, oR x2, oI sm, oI ex, .unset, .unset] [(.ref b1)]))
  refine Done.step (fun _ => XS.astore X7.here hx rfl (hb hby at_261) rfl rfl (l' := #[oJ a, .second, oJ b, .second, oI c1, oI c2, oI mode, oI lens, oJ ver1, .second, oI vm, oJ ver2, .second, oI l1, oI l2, oI d, oR x1, oR x2, oI sm, oI ex, oR b1, .unset]) rfl) ?_
  show Done _ p e below s _ _ (T7.setTop (mkF m 263 #[oJ a, .second, oJ b, .second, oI c1, oI c2, oI mode, oI lens, oJ ver1, .second, oI vm, oJ ver2, .second, oI l1, oI l2, oI d, oR x1, oR x2, oI sm, oI ex, oR b1, .unset] []))
  obtain ⟨T8, h8, X8, e8, E8, A8, D8, -, st8⟩ := newO X7 hx hZ hown (wAt hw 45 rfl) (wAt hw 46 rfl) (wAt hw 47 rfl) rfl (g := (mkF m 263 #[oJ a, .second, oJ b, .second, oI c1, oI c2, oI mode, oI lens, oJ ver1, .second, oI vm, oJ ver2, .second, oI l1, oI l2, oI d, oR x1, oR x2, oI sm, oI ex, oR b1, .unset] [])) rfl (hb hby at_263) (by decide) (by decide)
  obtain ⟨b8, g8⟩ : ∃ z, z = T7.heap.size := ⟨_, rfl⟩
  rw [← g8] at A8 D8 st8
  have f9 := (f2.keep K7q)
  have ne_x1_b8 : x1 ≠ b8 := by rw [g8]; exact Nat.ne_of_lt f9.lt
  have f10 := (f5.keep K7q (ninS ne_t1_b1 nin0))
  have ne_t1_b8 : t1 ≠ b8 := by rw [g8]; exact Nat.ne_of_lt f10.lt
  have f11 := ((gE2.ext E1).keep K7q)
  have ne_x2_b8 : x2 ≠ b8 := by rw [g8]; exact Nat.ne_of_lt f11.lt
  have f12 := ((gK2.ext E1).keep K7q (ninS ne_t2_b1 nin0))
  have ne_t2_b8 : t2 ≠ b8 := by rw [g8]; exact Nat.ne_of_lt f12.lt
  have ne_b1_b8 : b1 ≠ b8 := by rw [g8]; exact Nat.ne_of_lt f7_0.lt
  have n0_b8 : n0 ≤ b8 := by rw [g8]; exact Zs7
  have Zs8 := Nat.le_trans Zs7 E8.1
  have hk := Nat.le_trans hk E8.1
  have F_m_value_b8 : Fld Z h8 b8 "com/example/minho/minho/core/VersionedValue" "m_value" "Ljava/lang/String;" .null := D8 (Or.inr (wAt hw 98 rfl)) (ty := (.object "java/lang/String")) (by decide)
  have F_m_version_b8 : Fld Z h8 b8 "com/example/minho/minho/core/VersionedValue" "m_version" "J" (.long (0 : Int64)) := D8 (Or.inr (wAt hw 100 rfl)) (ty := .long) (by decide)
  refine Done.step st8 ?_
  show Done _ p e below s _ _ (T8.setTop (mkF m 266 #[oJ a, .second, oJ b, .second, oI c1, oI c2, oI mode, oI lens, oJ ver1, .second, oI vm, oJ ver2, .second, oI l1, oI l2, oI d, oR x1, oR x2, oI sm, oI ex, oR b1, .unset] [(.ref b8)]))
  refine Done.step (fun _ => XS.dup X8.here hx rfl (hb hby at_266) rfl rfl) ?_
  show Done _ p e below s _ _ (T8.setTop (mkF m 267 #[oJ a, .second, oJ b, .second, oI c1, oI c2, oI mode, oI lens, oJ ver1, .second, oI vm, oJ ver2, .second, oI l1, oI l2, oI d, oR x1, oR x2, oI sm, oI ex, oR b1, .unset] [(.ref b8), (.ref b8)]))
  refine Done.step (fun _ => XS.aload X8.here hx rfl (hb hby at_267) rfl rfl) ?_
  show Done _ p e below s _ _ (T8.setTop (mkF m 269 #[oJ a, .second, oJ b, .second, oI c1, oI c2, oI mode, oI lens, oJ ver1, .second, oI vm, oJ ver2, .second, oI l1, oI l2, oI d, oR x1, oR x2, oI sm, oI ex, oR b1, .unset] [(.ref x2), (.ref b8), (.ref b8)]))
  refine Done.step (fun _ => XT.lload X8.here hx rfl (hb hby at_269) rfl) ?_
  show Done _ p e below s _ _ (T8.setTop (mkF m 271 #[oJ a, .second, oJ b, .second, oI c1, oI c2, oI mode, oI lens, oJ ver1, .second, oI vm, oJ ver2, .second, oI l1, oI l2, oI d, oR x1, oR x2, oI sm, oI ex, oR b1, .unset] [(.long ver2), (.ref x2), (.ref b8), (.ref b8)]))
  have f13 := (f11.ext E8)
  have f14 := (((gV2.ext E1).keep K7q (ninS ne_x2_b1 nin0)).ext E8)
  have f15 := (((gC2.ext E1).keep K7q (ninS ne_x2_b1 nin0)).ext E8)
  have f16 := (f12.ext E8)
  have f17 := ((f6.keep K7q (allS n0_b1 all0)).ext E8)
  refine Done.callI X8 hx hZ rfl hown (wAt hw 48 rfl) (wAt hw 49 rfl) (wAt hw 47 rfl) (wAt hw 50 rfl) (by decide) (rmV l Z a0 hw [] b8 x2 t2 kb2 cs2 ver2 z fm h8 n0 Zs8 A8 F_m_value_b8 F_m_version_b8 n0_b8 f13 f14 f15 f16 (Ne.symm ne_x2_b8) (Ne.symm ne_t2_b8) f17 SC hz SF rF hp2 hl2 hv2) (fun _ _ => trivial) e8 (g := (mkF m 271 #[oJ a, .second, oJ b, .second, oI c1, oI c2, oI mode, oI lens, oJ ver1, .second, oI vm, oJ ver2, .second, oI l1, oI l2, oI d, oR x1, oR x2, oI sm, oI ex, oR b1, .unset] [(.long ver2), (.ref x2), (.ref b8), (.ref b8)])) rfl (by rw [hml]; rfl) b8 [(.ref x2), (.long ver2)] [(.ref b8)] 1 (lenOf pd_12 rfl) rfl rfl (by show 2 * 0 + _ ≤ _; exact Nat.le_of_eq rfl) (hb hby at_271) (by decide) (by decide) (by decide) (by decide) ?_
  intro T18 v18 L18 X18 q18
  obtain ⟨rfl, Nq18, K18q, f18_0, f18_1, f18_2⟩ := q18
  have N18 := Fr.app N7 Nq18
  have Zs18 := Nat.le_trans Zs8 K18q.1
  have hk := Nat.le_trans hk K18q.1
  show Done _ p e below s _ _ (T18.setTop (mkF m 274 #[oJ a, .second, oJ b, .second, oI c1, oI c2, oI mode, oI lens, oJ ver1, .second, oI vm, oJ ver2, .second, oI l1, oI l2, oI d, oR x1, oR x2, oI sm, oI ex, oR b1, .unset] [(.ref b8)]))
  refine Done.step (fun _ => XS.astore X18.here hx rfl (hb hby at_274) rfl rfl (l' := #[oJ a, .second, oJ b, .second, oI c1, oI c2, oI mode, oI lens, oJ ver1, .second, oI vm, oJ ver2, .second, oI l1, oI l2, oI d, oR x1, oR x2, oI sm, oI ex, oR b1, oR b8]) rfl) ?_
  show Done _ p e below s _ _ (T18.setTop (mkF m 276 #[oJ a, .second, oJ b, .second, oI c1, oI c2, oI mode, oI lens, oJ ver1, .second, oI vm, oJ ver2, .second, oI l1, oI l2, oI d, oR x1, oR x2, oI sm, oI ex, oR b1, oR b8] []))
  refine Done.step (fun _ => XS.aload X18.here hx rfl (hb hby at_276) rfl rfl) ?_
  show Done _ p e below s _ _ (T18.setTop (mkF m 278 #[oJ a, .second, oJ b, .second, oI c1, oI c2, oI mode, oI lens, oJ ver1, .second, oI vm, oJ ver2, .second, oI l1, oI l2, oI d, oR x1, oR x2, oI sm, oI ex, oR b1, oR b8] [(.ref b1)]))
  refine Done.step (fun _ => XS.aload X18.here hx rfl (hb hby at_278) rfl rfl) ?_
  show Done _ p e below s _ _ (T18.setTop (mkF m 280 #[oJ a, .second, oJ b, .second, oI c1, oI c2, oI mode, oI lens, oJ ver1, .second, oI vm, oJ ver2, .second, oI l1, oI l2, oI d, oR x1, oR x2, oI sm, oI ex, oR b1, oR b8] [(.ref b8), (.ref b1)]))
  have f19 := ((f7_1.ext E8).keep K18q (ninS ne_b1_b8 nin0))
  have f20 := ((f7_2.ext E8).keep K18q (ninS ne_b1_b8 nin0))
  have f21 := ((f9.ext E8).keep K18q)
  have f22 := (((f3.keep K7q (ninS ne_x1_b1 nin0)).ext E8).keep K18q (ninS ne_x1_b8 nin0))
  have f23 := (((f4.keep K7q (ninS ne_x1_b1 nin0)).ext E8).keep K18q (ninS ne_x1_b8 nin0))
  have f24 := ((f10.ext E8).keep K18q (ninS ne_t1_b8 nin0))
  have f25 := (f13.keep K18q)
  have f26 := (f14.keep K18q (ninS ne_x2_b8 nin0))
  have f27 := (f15.keep K18q (ninS ne_x2_b8 nin0))
  have f28 := (f16.keep K18q (ninS ne_t2_b8 nin0))
  have f29 := (f17.keep K18q (allS n0_b8 all0))
  have f31 := ((f7_0.ext E8).keep K18q)
  refine Done.callVP X18 hx hZ (C := "com/example/minho/minho/core/VersionedValue") hown (wAt hw 101 rfl) (wAt hw 102 rfl) (notFace_of_selects (args := #[]) (mvT hZ (wAt hw 104 rfl))) (wAt hw 104 rfl) (wAt hw 103 rfl) (wAt hw 47 rfl) (wAt hw 105 rfl) (by decide) (rmE l Z a0 hw [] b1 b8 x1 t1 kb1 cs1 x2 t2 kb2 cs2 ver1 ver2 ex z T18.heap n0 Zs18 f18_0 f19 f20 f18_1 f18_2 f21 f22 f23 f24 f25 f26 f27 f28 f29 SC hz hp1 hl1 hp2 hl2 hex) rfl f31 (g := (mkF m 280 #[oJ a, .second, oJ b, .second, oI c1, oI c2, oI mode, oI lens, oJ ver1, .second, oI vm, oJ ver2, .second, oI l1, oI l2, oI d, oR x1, oR x2, oI sm, oI ex, oR b1, oR b8] [(.ref b8), (.ref b1)])) rfl (by rw [hml]; rfl) [(.ref b8)] [] 0 (lenOf pd_9 rfl) rfl rfl (by show 2 * 0 + _ ≤ _; exact Nat.le_of_eq rfl) (hb hby at_280) (by decide) (by decide) (by decide) (by decide) rfl rfl ?_
  intro T30 X30 e30
  show Done _ p e below s _ _ (T30.setTop (mkF m 283 #[oJ a, .second, oJ b, .second, oI c1, oI c2, oI mode, oI lens, oJ ver1, .second, oI vm, oJ ver2, .second, oI l1, oI l2, oI d, oR x1, oR x2, oI sm, oI ex, oR b1, oR b8] [(.int ex)]))
  refine Done.step (fun _ => XS.iload X30.here hx rfl (hb hby at_283) rfl) ?_
  show Done _ p e below s _ _ (T30.setTop (mkF m 285 #[oJ a, .second, oJ b, .second, oI c1, oI c2, oI mode, oI lens, oJ ver1, .second, oI vm, oJ ver2, .second, oI l1, oI l2, oI d, oR x1, oR x2, oI sm, oI ex, oR b1, oR b8] [(.int ex), (.int ex)]))
  refine Done.step (fun _ => XS.icmpNo X30.here hx rfl (hb hby at_285) rfl (XT.ii_ne_f rfl)) ?_
  show Done _ p e below s _ _ (T30.setTop (mkF m 288 #[oJ a, .second, oJ b, .second, oI c1, oI c2, oI mode, oI lens, oJ ver1, .second, oI vm, oJ ver2, .second, oI l1, oI l2, oI d, oR x1, oR x2, oI sm, oI ex, oR b1, oR b8] []))
  refine Done.step (fun _ => XS.aload X30.here hx rfl (hb hby at_288) rfl rfl) ?_
  show Done _ p e below s _ _ (T30.setTop (mkF m 290 #[oJ a, .second, oJ b, .second, oI c1, oI c2, oI mode, oI lens, oJ ver1, .second, oI vm, oJ ver2, .second, oI l1, oI l2, oI d, oR x1, oR x2, oI sm, oI ex, oR b1, oR b8] [(.ref b8)]))
  refine Done.step (fun _ => XS.aload X30.here hx rfl (hb hby at_290) rfl rfl) ?_
  show Done _ p e below s _ _ (T30.setTop (mkF m 292 #[oJ a, .second, oJ b, .second, oI c1, oI c2, oI mode, oI lens, oJ ver1, .second, oI vm, oJ ver2, .second, oI l1, oI l2, oI d, oR x1, oR x2, oI sm, oI ex, oR b1, oR b8] [(.ref b1), (.ref b8)]))
  refine Done.callVP X30 hx hZ (C := "com/example/minho/minho/core/VersionedValue") hown (wAt hw 101 rfl) (wAt hw 102 rfl) (notFace_of_selects (args := #[]) (mvT hZ (wAt hw 104 rfl))) (wAt hw 104 rfl) (wAt hw 103 rfl) (wAt hw 47 rfl) (wAt hw 105 rfl) (by decide) (rmE l Z a0 hw [] b8 b1 x2 t2 kb2 cs2 x1 t1 kb1 cs1 ver2 ver1 ex z T18.heap n0 Zs18 f31 f18_1 f18_2 f19 f20 f25 f26 f27 f28 f21 f22 f23 f24 f29 SC hz hp2 hl2 hp1 hl1 (hex.trans (own_bpc _ _ _ _))) e30 f18_0 (g := (mkF m 292 #[oJ a, .second, oJ b, .second, oI c1, oI c2, oI mode, oI lens, oJ ver1, .second, oI vm, oJ ver2, .second, oI l1, oI l2, oI d, oR x1, oR x2, oI sm, oI ex, oR b1, oR b8] [(.ref b1), (.ref b8)])) rfl (by rw [hml]; rfl) [(.ref b1)] [] 0 (lenOf pd_9 rfl) rfl rfl (by show 2 * 0 + _ ≤ _; exact Nat.le_of_eq rfl) (hb hby at_292) (by decide) (by decide) (by decide) (by decide) rfl rfl ?_
  intro T32 X32 e32
  show Done _ p e below s _ _ (T32.setTop (mkF m 295 #[oJ a, .second, oJ b, .second, oI c1, oI c2, oI mode, oI lens, oJ ver1, .second, oI vm, oJ ver2, .second, oI l1, oI l2, oI d, oR x1, oR x2, oI sm, oI ex, oR b1, oR b8] [(.int ex)]))
  refine Done.step (fun _ => XS.iload X32.here hx rfl (hb hby at_295) rfl) ?_
  show Done _ p e below s _ _ (T32.setTop (mkF m 297 #[oJ a, .second, oJ b, .second, oI c1, oI c2, oI mode, oI lens, oJ ver1, .second, oI vm, oJ ver2, .second, oI l1, oI l2, oI d, oR x1, oR x2, oI sm, oI ex, oR b1, oR b8] [(.int ex), (.int ex)]))
  refine Done.step (fun _ => XS.icmpNo X32.here hx rfl (hb hby at_297) rfl (XT.ii_ne_f rfl)) ?_
  show Done _ p e below s _ _ (T32.setTop (mkF m 300 #[oJ a, .second, oJ b, .second, oI c1, oI c2, oI mode, oI lens, oJ ver1, .second, oI vm, oJ ver2, .second, oI l1, oI l2, oI d, oR x1, oR x2, oI sm, oI ex, oR b1, oR b8] []))
  refine Done.step (fun _ => XS.aload X32.here hx rfl (hb hby at_300) rfl rfl) ?_
  show Done _ p e below s _ _ (T32.setTop (mkF m 302 #[oJ a, .second, oJ b, .second, oI c1, oI c2, oI mode, oI lens, oJ ver1, .second, oI vm, oJ ver2, .second, oI l1, oI l2, oI d, oR x1, oR x2, oI sm, oI ex, oR b1, oR b8] [(.ref b1)]))
  refine Done.step (fun _ => XS.aload X32.here hx rfl (hb hby at_302) rfl rfl) ?_
  show Done _ p e below s _ _ (T32.setTop (mkF m 304 #[oJ a, .second, oJ b, .second, oI c1, oI c2, oI mode, oI lens, oJ ver1, .second, oI vm, oJ ver2, .second, oI l1, oI l2, oI d, oR x1, oR x2, oI sm, oI ex, oR b1, oR b8] [(.ref b1), (.ref b1)]))
  refine Done.callVP X32 hx hZ (C := "com/example/minho/minho/core/VersionedValue") hown (wAt hw 101 rfl) (wAt hw 102 rfl) (notFace_of_selects (args := #[]) (mvT hZ (wAt hw 104 rfl))) (wAt hw 104 rfl) (wAt hw 103 rfl) (wAt hw 47 rfl) (wAt hw 105 rfl) (by decide) (rmE l Z a0 hw [] b1 b1 x1 t1 kb1 cs1 x1 t1 kb1 cs1 ver1 ver1 (1 : Int32) z T18.heap n0 Zs18 f31 f19 f20 f19 f20 f21 f22 f23 f24 f21 f22 f23 f24 f29 SC hz hp1 hl1 hp1 hl1 (bP_t ⟨rfl, rfl⟩).symm) e32 f31 (g := (mkF m 304 #[oJ a, .second, oJ b, .second, oI c1, oI c2, oI mode, oI lens, oJ ver1, .second, oI vm, oJ ver2, .second, oI l1, oI l2, oI d, oR x1, oR x2, oI sm, oI ex, oR b1, oR b8] [(.ref b1), (.ref b1)])) rfl (by rw [hml]; rfl) [(.ref b1)] [] 0 (lenOf pd_9 rfl) rfl rfl (by show 2 * 0 + _ ≤ _; exact Nat.le_of_eq rfl) (hb hby at_304) (by decide) (by decide) (by decide) (by decide) rfl rfl ?_
  intro T33 X33 e33
  show Done _ p e below s _ _ (T33.setTop (mkF m 307 #[oJ a, .second, oJ b, .second, oI c1, oI c2, oI mode, oI lens, oJ ver1, .second, oI vm, oJ ver2, .second, oI l1, oI l2, oI d, oR x1, oR x2, oI sm, oI ex, oR b1, oR b8] [(.int (1 : Int32))]))
  refine Done.step (fun _ => XS.ifNo X33.here hx rfl (hb hby at_307) rfl (XT.i0_eq_f (by decide))) ?_
  show Done _ p e below s _ _ (T33.setTop (mkF m 310 #[oJ a, .second, oJ b, .second, oI c1, oI c2, oI mode, oI lens, oJ ver1, .second, oI vm, oJ ver2, .second, oI l1, oI l2, oI d, oR x1, oR x2, oI sm, oI ex, oR b1, oR b8] []))
  refine Done.step (fun _ => XS.aload X33.here hx rfl (hb hby at_310) rfl rfl) ?_
  show Done _ p e below s _ _ (T33.setTop (mkF m 312 #[oJ a, .second, oJ b, .second, oI c1, oI c2, oI mode, oI lens, oJ ver1, .second, oI vm, oJ ver2, .second, oI l1, oI l2, oI d, oR x1, oR x2, oI sm, oI ex, oR b1, oR b8] [(.ref b1)]))
  refine Done.step (fun _ => XS.aconstNull X33.here hx rfl (hb hby at_312)) ?_
  show Done _ p e below s _ _ (T33.setTop (mkF m 313 #[oJ a, .second, oJ b, .second, oI c1, oI c2, oI mode, oI lens, oJ ver1, .second, oI vm, oJ ver2, .second, oI l1, oI l2, oI d, oR x1, oR x2, oI sm, oI ex, oR b1, oR b8] [.null, (.ref b1)]))
  refine Done.callVP X33 hx hZ (C := "com/example/minho/minho/core/VersionedValue") hown (wAt hw 101 rfl) (wAt hw 102 rfl) (notFace_of_selects (args := #[]) (mvT hZ (wAt hw 104 rfl))) (wAt hw 104 rfl) (wAt hw 103 rfl) (wAt hw 47 rfl) (wAt hw 105 rfl) (by decide) (rmN l Z a0 hw [] b1 T18.heap n0 Zs18) e33 f31 (g := (mkF m 313 #[oJ a, .second, oJ b, .second, oI c1, oI c2, oI mode, oI lens, oJ ver1, .second, oI vm, oJ ver2, .second, oI l1, oI l2, oI d, oR x1, oR x2, oI sm, oI ex, oR b1, oR b8] [.null, (.ref b1)])) rfl (by rw [hml]; rfl) [.null] [] 0 (lenOf pd_9 rfl) rfl rfl (by show 2 * 0 + _ ≤ _; exact Nat.le_of_eq rfl) (hb hby at_313) (by decide) (by decide) (by decide) (by decide) rfl rfl ?_
  intro T34 X34 e34
  show Done _ p e below s _ _ (T34.setTop (mkF m 316 #[oJ a, .second, oJ b, .second, oI c1, oI c2, oI mode, oI lens, oJ ver1, .second, oI vm, oJ ver2, .second, oI l1, oI l2, oI d, oR x1, oR x2, oI sm, oI ex, oR b1, oR b8] [(.int (0 : Int32))]))
  refine Done.step (fun _ => XS.ifNo X34.here hx rfl (hb hby at_316) rfl (XT.i0_ne_f rfl)) ?_
  show Done _ p e below s _ _ (T34.setTop (mkF m 319 #[oJ a, .second, oJ b, .second, oI c1, oI c2, oI mode, oI lens, oJ ver1, .second, oI vm, oJ ver2, .second, oI l1, oI l2, oI d, oR x1, oR x2, oI sm, oI ex, oR b1, oR b8] []))
  refine Done.step (fun _ => XS.aload X34.here hx rfl (hb hby at_319) rfl rfl) ?_
  show Done _ p e below s _ _ (T34.setTop (mkF m 321 #[oJ a, .second, oJ b, .second, oI c1, oI c2, oI mode, oI lens, oJ ver1, .second, oI vm, oJ ver2, .second, oI l1, oI l2, oI d, oR x1, oR x2, oI sm, oI ex, oR b1, oR b8] [(.ref b1)]))
  refine Done.step (fun _ => XS.aload X34.here hx rfl (hb hby at_321) rfl rfl) ?_
  show Done _ p e below s _ _ (T34.setTop (mkF m 323 #[oJ a, .second, oJ b, .second, oI c1, oI c2, oI mode, oI lens, oJ ver1, .second, oI vm, oJ ver2, .second, oI l1, oI l2, oI d, oR x1, oR x2, oI sm, oI ex, oR b1, oR b8] [(.ref x1), (.ref b1)]))
  refine Done.callVP X34 hx hZ (C := "com/example/minho/minho/core/VersionedValue") hown (wAt hw 101 rfl) (wAt hw 102 rfl) (notFace_of_selects (args := #[]) (mvT hZ (wAt hw 104 rfl))) (wAt hw 104 rfl) (wAt hw 103 rfl) (wAt hw 47 rfl) (wAt hw 105 rfl) (by decide) (rmI l Z a0 hw [] b1 x1 T18.heap n0 Zs18 f21) e34 f31 (g := (mkF m 323 #[oJ a, .second, oJ b, .second, oI c1, oI c2, oI mode, oI lens, oJ ver1, .second, oI vm, oJ ver2, .second, oI l1, oI l2, oI d, oR x1, oR x2, oI sm, oI ex, oR b1, oR b8] [(.ref x1), (.ref b1)])) rfl (by rw [hml]; rfl) [(.ref x1)] [] 0 (lenOf pd_9 rfl) rfl rfl (by show 2 * 0 + _ ≤ _; exact Nat.le_of_eq rfl) (hb hby at_323) (by decide) (by decide) (by decide) (by decide) rfl rfl ?_
  intro T35 X35 e35
  show Done _ p e below s _ _ (T35.setTop (mkF m 326 #[oJ a, .second, oJ b, .second, oI c1, oI c2, oI mode, oI lens, oJ ver1, .second, oI vm, oJ ver2, .second, oI l1, oI l2, oI d, oR x1, oR x2, oI sm, oI ex, oR b1, oR b8] [(.int (0 : Int32))]))
  refine Done.step (fun _ => XS.ifNo X35.here hx rfl (hb hby at_326) rfl (XT.i0_ne_f rfl)) ?_
  show Done _ p e below s _ _ (T35.setTop (mkF m 329 #[oJ a, .second, oJ b, .second, oI c1, oI c2, oI mode, oI lens, oJ ver1, .second, oI vm, oJ ver2, .second, oI l1, oI l2, oI d, oR x1, oR x2, oI sm, oI ex, oR b1, oR b8] []))
  refine Done.step (fun _ => XT.iconstV X35.here hx rfl (1 : Int32) (hb hby at_329) (by decide)) ?_
  show Done _ p e below s _ _ (T35.setTop (mkF m 330 #[oJ a, .second, oJ b, .second, oI c1, oI c2, oI mode, oI lens, oJ ver1, .second, oI vm, oJ ver2, .second, oI l1, oI l2, oI d, oR x1, oR x2, oI sm, oI ex, oR b1, oR b8] [(.int (1 : Int32))]))
  refine Done.step (fun _ => XS.goto X35.here hx rfl (pc0 := 330) (pc' := 334) rfl (hb hby at_330) (by decide) (by decide)) ?_
  show Done _ p e below s _ _ (T35.setTop (mkF m 334 #[oJ a, .second, oJ b, .second, oI c1, oI c2, oI mode, oI lens, oJ ver1, .second, oI vm, oJ ver2, .second, oI l1, oI l2, oI d, oR x1, oR x2, oI sm, oI ex, oR b1, oR b8] [(.int (1 : Int32))]))
  exact Done.retN (leavesW X35 hS (by first | exact hk | (rw [e35]; exact hk)) hlk (by decide) (by decide)) X35 hx (t := .boolean) hret (by simp) (hb hby at_334) ⟨rfl, N18⟩
theorem own_mge (b : Int64) : ¬ own_max (1 : Int64) b < (1 : Int64) := by
  unfold own_max
  have e : (1 : Int64).toInt = 1 := rfl
  split
  · rename_i h; rw [Int64.lt_iff_toInt_lt] at h ⊢; omega
  · rw [Int64.lt_iff_toInt_lt]; omega
theorem own_inc {v : Int64} (h : ¬ v < (1 : Int64)) (h2 : ¬ v = (9223372036854775807 : Int64)) : ¬ (v + (1 : Int64)) < (1 : Int64) := by
  have e : (1 : Int64).toInt = 1 := rfl
  have e2 : (9223372036854775807 : Int64).toInt = 9223372036854775807 := rfl
  have h3 : v.toInt ≠ 9223372036854775807 := fun q => h2 (Int64.toInt_inj.mp (q.trans e2.symm))
  have h4 := v.toInt_lt
  rw [Int64.lt_iff_toInt_lt] at h ⊢
  rw [Jvm.Kit.i64_add (by omega) (by omega)]
  omega
theorem own_m3 (x : Int32) : x &&& (3 : Int32) = 0 ∨ x &&& (3 : Int32) = 1 ∨ x &&& (3 : Int32) = 2 ∨ x &&& (3 : Int32) = 3 := by
  have h : (x &&& (3 : Int32)).toInt = x.toInt % 2 ^ 2 := Jvm.Kit.i32_mask x _ (k := 2) (by decide) (by decide)
  rcases (by omega : (x &&& (3 : Int32)).toInt = 0 ∨ (x &&& (3 : Int32)).toInt = 1 ∨ (x &&& (3 : Int32)).toInt = 2 ∨ (x &&& (3 : Int32)).toInt = 3) with h | h | h | h
  · exact Or.inl (Int32.toInt_inj.mp h)
  · exact Or.inr (Or.inl (Int32.toInt_inj.mp h))
  · exact Or.inr (Or.inr (Or.inl (Int32.toInt_inj.mp h)))
  · exact Or.inr (Or.inr (Or.inr (Int32.toInt_inj.mp h)))
theorem own_L1 (c0 d0 : Int32) : ([d0] : List Int32) = [c0] ↔ c0 = d0 := by simp [eq_comm]
theorem own_L2 (c0 c1 d0 d1 : Int32) : ([d0, d1] : List Int32) = [c0, c1] ↔ c0 = d0 ∧ c1 = d1 := by simp [eq_comm]
theorem own_L3 (c0 c1 c2 d0 d1 d2 : Int32) : ([d0, d1, d2] : List Int32) = [c0, c1, c2] ↔ c0 = d0 ∧ c1 = d1 ∧ c2 = d2 := by simp [eq_comm]
theorem pd_13 : parseMethodDescriptor "(II)Ljava/lang/String;" = some ⟨[.int, .int], some (.object "java/lang/String")⟩ := by decide +kernel
theorem pd_14 : parseMethodDescriptor "(JJ)J" = some ⟨[.long, .long], some .long⟩ := by decide +kernel
set_option maxRecDepth 65536 in
set_option maxHeartbeats 40000000 in
theorem rm0 (l : Launch) (Z : State) (a0 : Array Value) (hw : ∀ d ∈ tables_1, d.before a0 Z = true) (ws : List Jvm.Cond) (a b : Int64) (c1 c2 mode lens : Int32) (z : Int32) (fm : Value) (h0 : Heap) (n0 : Nat) (Z0 : n0 ≤ h0.size) (O0 : Old Z n0 h0) (SC : Sta Z Z.heap "java/lang/String" "COMPACT_STRINGS" "Z" (.int z)) (hz : ¬ z = 0) (SF : Sta Z Z.heap "jdk/internal/util/Preconditions" "SIOOBE_FORMATTER" "Ljava/util/function/BiFunction;" fm) (rF : fm.isRef = true) (hh : Jvm.Lit.constHeld Z "java/lang/String" 7) (hcw : Jvm.Lit.compactW.before a0 Z = true) :
    Ctr ReturnedEndW l Z x code maxLocals ret ws room_1 #[(.long a), (.long b), (.int c1), (.int c2), (.int mode), (.int lens)] h0 (fun vm => IB Z vm []) (LawQ n0) := by
  refine Ctr.intro (plainFor_of_name pn_com_example_minho_minho_core_VersionedValueEqualsPinLaw) (Ls := #[.val (.long a), .second, .val (.long b), .second, .val (.int c1), .val (.int c2), .val (.int mode), .val (.int lens), .unset, .unset, .unset, .unset, .unset, .unset, .unset, .unset, .unset, .unset, .unset, .unset, .unset, .unset]) (fun m => by first | (simp [entryFrame, mkF, argsToLocals, Value.category, maxLocals]; done) | rfl) ?_
  intro p e s m below meth c T0 hx hby hml hown hnm hret hlk hZ hV hsh e0 X0
  have N0 := Fr.nil n0
  have hown : s.vm.findClass "com/example/minho/minho/core/VersionedValueEqualsPinLaw" = some m.cls := hown
  have hret : meth.sig.returnType = (some .boolean) := hret
  have hml : c.maxLocals = 22 := hml
  have hS : s.Since s.vm 0 := (State.WarmedH.refl s).since 0
  have hk : 0 ≤ h0.size := Nat.zero_le _
  have X0 : Stand p l e room_1 (s.setVm s.vm) m #[(.long a), (.long b), (.int c1), (.int c2), (.int mode), (.int lens)] below meth c T0 [] 0 0 := X0
  have hZ : Z.Warmed39 (s.setVm s.vm).vm := hZ
  have hown : (s.setVm s.vm).vm.findClass "com/example/minho/minho/core/VersionedValueEqualsPinLaw" = some m.cls := hown
  show Done _ p e below s _ _ (T0.setTop (mkF m 0 #[oJ a, .second, oJ b, .second, oI c1, oI c2, oI mode, oI lens, .unset, .unset, .unset, .unset, .unset, .unset, .unset, .unset, .unset, .unset, .unset, .unset, .unset, .unset] []))
  refine Done.step (fun _ => XT.lconstV X0.here hx rfl (1 : Int64) (hb hby at_0) (by decide)) ?_
  show Done _ p e below s _ _ (T0.setTop (mkF m 1 #[oJ a, .second, oJ b, .second, oI c1, oI c2, oI mode, oI lens, .unset, .unset, .unset, .unset, .unset, .unset, .unset, .unset, .unset, .unset, .unset, .unset, .unset, .unset] [(.long (1 : Int64))]))
  have K89 : ∀ (TL : State) (eL : TL.heap = h0) (XL : Stand p l e room_1 (s.setVm s.vm) m #[(.long a), (.long b), (.int c1), (.int c2), (.int mode), (.int lens)] below meth c TL [] 0 0) (ver1 ver2 : Int64) (vmo : Int32) (hv1 : ¬ ver1 < (1 : Int64)) (hv2 : ¬ ver2 < (1 : Int64)), Done ReturnedEndW p e below s room_1 (LawQ n0) (TL.setTop (mkF m 89 #[oJ a, .second, oJ b, .second, oI c1, oI c2, oI mode, oI lens, oJ ver1, .second, oI vmo, oJ ver2, .second, .unset, .unset, .unset, .unset, .unset, .unset, .unset, .unset, .unset] [])) := by
    intro TL eL XL ver1 ver2 vmo hv1 hv2
    show Done _ p e below s _ _ (TL.setTop (mkF m 89 #[oJ a, .second, oJ b, .second, oI c1, oI c2, oI mode, oI lens, oJ ver1, .second, oI vmo, oJ ver2, .second, .unset, .unset, .unset, .unset, .unset, .unset, .unset, .unset, .unset] []))
    refine Done.step (fun _ => XS.iload XL.here hx rfl (hb hby at_89) rfl) ?_
    show Done _ p e below s _ _ (TL.setTop (mkF m 91 #[oJ a, .second, oJ b, .second, oI c1, oI c2, oI mode, oI lens, oJ ver1, .second, oI vmo, oJ ver2, .second, .unset, .unset, .unset, .unset, .unset, .unset, .unset, .unset, .unset] [(.int lens)]))
    have K135 : ∀ (le1 le2 dd : Int32) (hl1 : (le1 = 0 ∨ le1 = 1 ∨ le1 = 2 ∨ le1 = 3)) (hl2 : (le2 = 0 ∨ le2 = 1 ∨ le2 = 2 ∨ le2 = 3)), Done ReturnedEndW p e below s room_1 (LawQ n0) (TL.setTop (mkF m 135 #[oJ a, .second, oJ b, .second, oI c1, oI c2, oI mode, oI lens, oJ ver1, .second, oI vmo, oJ ver2, .second, oI le1, oI le2, oI dd, .unset, .unset, .unset, .unset, .unset, .unset] [])) := by
      intro le1 le2 dd hl1 hl2
      show Done _ p e below s _ _ (TL.setTop (mkF m 135 #[oJ a, .second, oJ b, .second, oI c1, oI c2, oI mode, oI lens, oJ ver1, .second, oI vmo, oJ ver2, .second, oI le1, oI le2, oI dd, .unset, .unset, .unset, .unset, .unset, .unset] []))
      refine Done.step (fun _ => XS.iload XL.here hx rfl (hb hby at_135) rfl) ?_
      show Done _ p e below s _ _ (TL.setTop (mkF m 137 #[oJ a, .second, oJ b, .second, oI c1, oI c2, oI mode, oI lens, oJ ver1, .second, oI vmo, oJ ver2, .second, oI le1, oI le2, oI dd, .unset, .unset, .unset, .unset, .unset, .unset] [(.int le1)]))
      rcases hl1 with hv | hv | hv | hv
      · rw [hv]
        show Done _ p e below s _ _ (TL.setTop (mkF m 137 #[oJ a, .second, oJ b, .second, oI c1, oI c2, oI mode, oI lens, oJ ver1, .second, oI vmo, oJ ver2, .second, oI (0 : Int32), oI le2, oI dd, .unset, .unset, .unset, .unset, .unset, .unset] [(.int (0 : Int32))]))
        refine Done.step (fun _ => XS.iload XL.here hx rfl (hb hby at_137) rfl) ?_
        show Done _ p e below s _ _ (TL.setTop (mkF m 139 #[oJ a, .second, oJ b, .second, oI c1, oI c2, oI mode, oI lens, oJ ver1, .second, oI vmo, oJ ver2, .second, oI (0 : Int32), oI le2, oI dd, .unset, .unset, .unset, .unset, .unset, .unset] [(.int c1), (.int (0 : Int32))]))
        refine Done.callSW XL hx hZ hown hS hk (wAt hw 5 rfl) (wAt hw 6 rfl) (wAt hw 7 rfl) (wAt hw 8 rfl) (by decide) (rmM0 l Z a0 hw [] c1 z h0 n0 Z0 O0 SC hz hh hcw) (fun vm' hW => own_ibV hV hW) eL (g := (mkF m 139 #[oJ a, .second, oJ b, .second, oI c1, oI c2, oI mode, oI lens, oJ ver1, .second, oI vmo, oJ ver2, .second, oI (0 : Int32), oI le2, oI dd, .unset, .unset, .unset, .unset, .unset, .unset] [(.int c1), (.int (0 : Int32))])) rfl (by rw [hml]; rfl) [(.int (0 : Int32)), (.int c1)] [] 0 (lenOf pd_13 rfl) rfl rfl (by show 2 * 0 + _ ≤ _; exact Nat.le_of_eq rfl) (hb hby at_139) (by decide) (by decide) (by decide) (by decide) ?_
        intro T1 v1 L1 X1 hS hZ hown hW1 q1
        have hk := Nat.le_refl T1.heap.size
        obtain ⟨x1, rfl, Nq1, K1q, aa, bb, kk, LT, FA1, FA2, FB, Em1, Vm1, Cm1⟩ := q1
        have N1 := Fr.app N0 Nq1
        have Zs1 := Nat.le_trans Z0 K1q.1
        show Done _ p e below s _ _ (T1.setTop (mkF m 142 #[oJ a, .second, oJ b, .second, oI c1, oI c2, oI mode, oI lens, oJ ver1, .second, oI vmo, oJ ver2, .second, oI (0 : Int32), oI le2, oI dd, .unset, .unset, .unset, .unset, .unset, .unset] [(.ref x1)]))
        refine Done.step (fun _ => XS.astore X1.here hx rfl (hb hby at_142) rfl rfl (l' := #[oJ a, .second, oJ b, .second, oI c1, oI c2, oI mode, oI lens, oJ ver1, .second, oI vmo, oJ ver2, .second, oI (0 : Int32), oI le2, oI dd, oR x1, .unset, .unset, .unset, .unset, .unset]) rfl) ?_
        show Done _ p e below s _ _ (T1.setTop (mkF m 144 #[oJ a, .second, oJ b, .second, oI c1, oI c2, oI mode, oI lens, oJ ver1, .second, oI vmo, oJ ver2, .second, oI (0 : Int32), oI le2, oI dd, oR x1, .unset, .unset, .unset, .unset, .unset] []))
        rcases hl2 with hv | hv | hv | hv
        · rw [hv]
          show Done _ p e below s _ _ (T1.setTop (mkF m 144 #[oJ a, .second, oJ b, .second, oI c1, oI c2, oI mode, oI lens, oJ ver1, .second, oI vmo, oJ ver2, .second, oI (0 : Int32), oI (0 : Int32), oI dd, oR x1, .unset, .unset, .unset, .unset, .unset] []))
          refine Done.step (fun _ => XS.iload X1.here hx rfl (hb hby at_144) rfl) ?_
          show Done _ p e below s _ _ (T1.setTop (mkF m 146 #[oJ a, .second, oJ b, .second, oI c1, oI c2, oI mode, oI lens, oJ ver1, .second, oI vmo, oJ ver2, .second, oI (0 : Int32), oI (0 : Int32), oI dd, oR x1, .unset, .unset, .unset, .unset, .unset] [(.int (0 : Int32))]))
          refine Done.step (fun _ => XS.iload X1.here hx rfl (hb hby at_146) rfl) ?_
          show Done _ p e below s _ _ (T1.setTop (mkF m 148 #[oJ a, .second, oJ b, .second, oI c1, oI c2, oI mode, oI lens, oJ ver1, .second, oI vmo, oJ ver2, .second, oI (0 : Int32), oI (0 : Int32), oI dd, oR x1, .unset, .unset, .unset, .unset, .unset] [(.int dd), (.int (0 : Int32))]))
          have f2 := (O0.keep K1q all0)
          refine Done.callSW X1 hx hZ hown hS hk (wAt hw 5 rfl) (wAt hw 6 rfl) (wAt hw 7 rfl) (wAt hw 8 rfl) (by decide) (rmM0b l Z a0 hw [] dd z aa bb kk T1.heap n0 Zs1 f2 SC hz FA1 FA2 FB) (fun vm' hW => own_litV LT hW) rfl (g := (mkF m 148 #[oJ a, .second, oJ b, .second, oI c1, oI c2, oI mode, oI lens, oJ ver1, .second, oI vmo, oJ ver2, .second, oI (0 : Int32), oI (0 : Int32), oI dd, oR x1, .unset, .unset, .unset, .unset, .unset] [(.int dd), (.int (0 : Int32))])) rfl (by rw [hml]; rfl) [(.int (0 : Int32)), (.int dd)] [] 0 (lenOf pd_13 rfl) rfl rfl (by show 2 * 0 + _ ≤ _; exact Nat.le_of_eq rfl) (hb hby at_148) (by decide) (by decide) (by decide) (by decide) ?_
          intro T3 v3 L3 X3 hS hZ hown hW3 q3
          have hk := Nat.le_refl T3.heap.size
          obtain ⟨x2, rfl, Nq3, K3q, Em2, Vm2, Cm2⟩ := q3
          have N3 := Fr.app N1 Nq3
          have Zs3 := Nat.le_trans Zs1 K3q.1
          show Done _ p e below s _ _ (T3.setTop (mkF m 151 #[oJ a, .second, oJ b, .second, oI c1, oI c2, oI mode, oI lens, oJ ver1, .second, oI vmo, oJ ver2, .second, oI (0 : Int32), oI (0 : Int32), oI dd, oR x1, .unset, .unset, .unset, .unset, .unset] [(.ref x2)]))
          refine Done.step (fun _ => XS.astore X3.here hx rfl (hb hby at_151) rfl rfl (l' := #[oJ a, .second, oJ b, .second, oI c1, oI c2, oI mode, oI lens, oJ ver1, .second, oI vmo, oJ ver2, .second, oI (0 : Int32), oI (0 : Int32), oI dd, oR x1, oR x2, .unset, .unset, .unset, .unset]) rfl) ?_
          show Done _ p e below s _ _ (T3.setTop (mkF m 153 #[oJ a, .second, oJ b, .second, oI c1, oI c2, oI mode, oI lens, oJ ver1, .second, oI vmo, oJ ver2, .second, oI (0 : Int32), oI (0 : Int32), oI dd, oR x1, oR x2, .unset, .unset, .unset, .unset] []))
          refine Done.step (fun _ => XS.iload X3.here hx rfl (hb hby at_153) rfl) ?_
          show Done _ p e below s _ _ (T3.setTop (mkF m 155 #[oJ a, .second, oJ b, .second, oI c1, oI c2, oI mode, oI lens, oJ ver1, .second, oI vmo, oJ ver2, .second, oI (0 : Int32), oI (0 : Int32), oI dd, oR x1, oR x2, .unset, .unset, .unset, .unset] [(.int (0 : Int32))]))
          refine Done.step (fun _ => XS.iload X3.here hx rfl (hb hby at_155) rfl) ?_
          show Done _ p e below s _ _ (T3.setTop (mkF m 157 #[oJ a, .second, oJ b, .second, oI c1, oI c2, oI mode, oI lens, oJ ver1, .second, oI vmo, oJ ver2, .second, oI (0 : Int32), oI (0 : Int32), oI dd, oR x1, oR x2, .unset, .unset, .unset, .unset] [(.int (0 : Int32)), (.int (0 : Int32))]))
          refine Done.step (fun _ => XS.icmpNo X3.here hx rfl (hb hby at_157) rfl (XT.ii_ne_f rfl)) ?_
          show Done _ p e below s _ _ (T3.setTop (mkF m 160 #[oJ a, .second, oJ b, .second, oI c1, oI c2, oI mode, oI lens, oJ ver1, .second, oI vmo, oJ ver2, .second, oI (0 : Int32), oI (0 : Int32), oI dd, oR x1, oR x2, .unset, .unset, .unset, .unset] []))
          refine Done.step (fun _ => XS.iload X3.here hx rfl (hb hby at_160) rfl) ?_
          show Done _ p e below s _ _ (T3.setTop (mkF m 162 #[oJ a, .second, oJ b, .second, oI c1, oI c2, oI mode, oI lens, oJ ver1, .second, oI vmo, oJ ver2, .second, oI (0 : Int32), oI (0 : Int32), oI dd, oR x1, oR x2, .unset, .unset, .unset, .unset] [(.int (0 : Int32))]))
          refine Done.step (fun _ => XT.iconstV X3.here hx rfl (1 : Int32) (hb hby at_162) (by decide)) ?_
          show Done _ p e below s _ _ (T3.setTop (mkF m 163 #[oJ a, .second, oJ b, .second, oI c1, oI c2, oI mode, oI lens, oJ ver1, .second, oI vmo, oJ ver2, .second, oI (0 : Int32), oI (0 : Int32), oI dd, oR x1, oR x2, .unset, .unset, .unset, .unset] [(.int (1 : Int32)), (.int (0 : Int32))]))
          refine Done.step (fun _ => XS.icmpYes X3.here hx rfl (pc0 := 163) (pc' := 181) rfl (hb hby at_163) rfl (XT.ii_lt_t (by decide)) (by decide) (by decide)) ?_
          show Done _ p e below s _ _ (T3.setTop (mkF m 181 #[oJ a, .second, oJ b, .second, oI c1, oI c2, oI mode, oI lens, oJ ver1, .second, oI vmo, oJ ver2, .second, oI (0 : Int32), oI (0 : Int32), oI dd, oR x1, oR x2, .unset, .unset, .unset, .unset] []))
          refine Done.step (fun _ => XS.iload X3.here hx rfl (hb hby at_181) rfl) ?_
          show Done _ p e below s _ _ (T3.setTop (mkF m 183 #[oJ a, .second, oJ b, .second, oI c1, oI c2, oI mode, oI lens, oJ ver1, .second, oI vmo, oJ ver2, .second, oI (0 : Int32), oI (0 : Int32), oI dd, oR x1, oR x2, .unset, .unset, .unset, .unset] [(.int (0 : Int32))]))
          refine Done.step (fun _ => XT.iconstV X3.here hx rfl (2 : Int32) (hb hby at_183) (by decide)) ?_
          show Done _ p e below s _ _ (T3.setTop (mkF m 184 #[oJ a, .second, oJ b, .second, oI c1, oI c2, oI mode, oI lens, oJ ver1, .second, oI vmo, oJ ver2, .second, oI (0 : Int32), oI (0 : Int32), oI dd, oR x1, oR x2, .unset, .unset, .unset, .unset] [(.int (2 : Int32)), (.int (0 : Int32))]))
          refine Done.step (fun _ => XS.icmpYes X3.here hx rfl (pc0 := 184) (pc' := 202) rfl (hb hby at_184) rfl (XT.ii_lt_t (by decide)) (by decide) (by decide)) ?_
          show Done _ p e below s _ _ (T3.setTop (mkF m 202 #[oJ a, .second, oJ b, .second, oI c1, oI c2, oI mode, oI lens, oJ ver1, .second, oI vmo, oJ ver2, .second, oI (0 : Int32), oI (0 : Int32), oI dd, oR x1, oR x2, .unset, .unset, .unset, .unset] []))
          refine Done.step (fun _ => XS.iload X3.here hx rfl (hb hby at_202) rfl) ?_
          show Done _ p e below s _ _ (T3.setTop (mkF m 204 #[oJ a, .second, oJ b, .second, oI c1, oI c2, oI mode, oI lens, oJ ver1, .second, oI vmo, oJ ver2, .second, oI (0 : Int32), oI (0 : Int32), oI dd, oR x1, oR x2, .unset, .unset, .unset, .unset] [(.int (0 : Int32))]))
          refine Done.step (fun _ => XT.iconstV X3.here hx rfl (3 : Int32) (hb hby at_204) (by decide)) ?_
          show Done _ p e below s _ _ (T3.setTop (mkF m 205 #[oJ a, .second, oJ b, .second, oI c1, oI c2, oI mode, oI lens, oJ ver1, .second, oI vmo, oJ ver2, .second, oI (0 : Int32), oI (0 : Int32), oI dd, oR x1, oR x2, .unset, .unset, .unset, .unset] [(.int (3 : Int32)), (.int (0 : Int32))]))
          refine Done.step (fun _ => XS.icmpYes X3.here hx rfl (pc0 := 205) (pc' := 223) rfl (hb hby at_205) rfl (XT.ii_lt_t (by decide)) (by decide) (by decide)) ?_
          show Done _ p e below s _ _ (T3.setTop (mkF m 223 #[oJ a, .second, oJ b, .second, oI c1, oI c2, oI mode, oI lens, oJ ver1, .second, oI vmo, oJ ver2, .second, oI (0 : Int32), oI (0 : Int32), oI dd, oR x1, oR x2, .unset, .unset, .unset, .unset] []))
          refine Done.step (fun _ => XT.iconstV X3.here hx rfl (1 : Int32) (hb hby at_223) (by decide)) ?_
          show Done _ p e below s _ _ (T3.setTop (mkF m 224 #[oJ a, .second, oJ b, .second, oI c1, oI c2, oI mode, oI lens, oJ ver1, .second, oI vmo, oJ ver2, .second, oI (0 : Int32), oI (0 : Int32), oI dd, oR x1, oR x2, .unset, .unset, .unset, .unset] [(.int (1 : Int32))]))
          refine Done.step (fun _ => XS.goto X3.here hx rfl (pc0 := 224) (pc' := 228) rfl (hb hby at_224) (by decide) (by decide)) ?_
          show Done _ p e below s _ _ (T3.setTop (mkF m 228 #[oJ a, .second, oJ b, .second, oI c1, oI c2, oI mode, oI lens, oJ ver1, .second, oI vmo, oJ ver2, .second, oI (0 : Int32), oI (0 : Int32), oI dd, oR x1, oR x2, .unset, .unset, .unset, .unset] [(.int (1 : Int32))]))
          refine Done.step (fun _ => XS.istore X3.here hx rfl (hb hby at_228) rfl (l' := #[oJ a, .second, oJ b, .second, oI c1, oI c2, oI mode, oI lens, oJ ver1, .second, oI vmo, oJ ver2, .second, oI (0 : Int32), oI (0 : Int32), oI dd, oR x1, oR x2, oI (1 : Int32), .unset, .unset, .unset]) rfl) ?_
          show Done _ p e below s _ _ (T3.setTop (mkF m 230 #[oJ a, .second, oJ b, .second, oI c1, oI c2, oI mode, oI lens, oJ ver1, .second, oI vmo, oJ ver2, .second, oI (0 : Int32), oI (0 : Int32), oI dd, oR x1, oR x2, oI (1 : Int32), .unset, .unset, .unset] []))
          refine Done.step (fun _ => XT.lload X3.here hx rfl (hb hby at_230) rfl) ?_
          show Done _ p e below s _ _ (T3.setTop (mkF m 232 #[oJ a, .second, oJ b, .second, oI c1, oI c2, oI mode, oI lens, oJ ver1, .second, oI vmo, oJ ver2, .second, oI (0 : Int32), oI (0 : Int32), oI dd, oR x1, oR x2, oI (1 : Int32), .unset, .unset, .unset] [(.long ver1)]))
          refine Done.step (fun _ => XT.lload X3.here hx rfl (hb hby at_232) rfl) ?_
          show Done _ p e below s _ _ (T3.setTop (mkF m 234 #[oJ a, .second, oJ b, .second, oI c1, oI c2, oI mode, oI lens, oJ ver1, .second, oI vmo, oJ ver2, .second, oI (0 : Int32), oI (0 : Int32), oI dd, oR x1, oR x2, oI (1 : Int32), .unset, .unset, .unset] [(.long ver2), (.long ver1)]))
          refine Done.step (fun _ => XT.lcmp X3.here hx rfl (hb hby at_234) rfl) ?_
          show Done _ p e below s _ _ (T3.setTop (mkF m 235 #[oJ a, .second, oJ b, .second, oI c1, oI c2, oI mode, oI lens, oJ ver1, .second, oI vmo, oJ ver2, .second, oI (0 : Int32), oI (0 : Int32), oI dd, oR x1, oR x2, oI (1 : Int32), .unset, .unset, .unset] [(.int (XT.cmpL ver1 ver2))]))
          by_cases hc4 : ver1 = ver2
          · refine Done.step (fun _ => XS.ifNo X3.here hx rfl (hb hby at_235) rfl (XT.ll_ne_f hc4)) ?_
            show Done _ p e below s _ _ (T3.setTop (mkF m 238 #[oJ a, .second, oJ b, .second, oI c1, oI c2, oI mode, oI lens, oJ ver1, .second, oI vmo, oJ ver2, .second, oI (0 : Int32), oI (0 : Int32), oI dd, oR x1, oR x2, oI (1 : Int32), .unset, .unset, .unset] []))
            refine Done.step (fun _ => XS.iload X3.here hx rfl (hb hby at_238) rfl) ?_
            show Done _ p e below s _ _ (T3.setTop (mkF m 240 #[oJ a, .second, oJ b, .second, oI c1, oI c2, oI mode, oI lens, oJ ver1, .second, oI vmo, oJ ver2, .second, oI (0 : Int32), oI (0 : Int32), oI dd, oR x1, oR x2, oI (1 : Int32), .unset, .unset, .unset] [(.int (1 : Int32))]))
            refine Done.step (fun _ => XS.ifNo X3.here hx rfl (hb hby at_240) rfl (XT.i0_eq_f (by decide))) ?_
            show Done _ p e below s _ _ (T3.setTop (mkF m 243 #[oJ a, .second, oJ b, .second, oI c1, oI c2, oI mode, oI lens, oJ ver1, .second, oI vmo, oJ ver2, .second, oI (0 : Int32), oI (0 : Int32), oI dd, oR x1, oR x2, oI (1 : Int32), .unset, .unset, .unset] []))
            refine Done.step (fun _ => XT.iconstV X3.here hx rfl (1 : Int32) (hb hby at_243) (by decide)) ?_
            show Done _ p e below s _ _ (T3.setTop (mkF m 244 #[oJ a, .second, oJ b, .second, oI c1, oI c2, oI mode, oI lens, oJ ver1, .second, oI vmo, oJ ver2, .second, oI (0 : Int32), oI (0 : Int32), oI dd, oR x1, oR x2, oI (1 : Int32), .unset, .unset, .unset] [(.int (1 : Int32))]))
            refine Done.step (fun _ => XS.goto X3.here hx rfl (pc0 := 244) (pc' := 248) rfl (hb hby at_244) (by decide) (by decide)) ?_
            show Done _ p e below s _ _ (T3.setTop (mkF m 248 #[oJ a, .second, oJ b, .second, oI c1, oI c2, oI mode, oI lens, oJ ver1, .second, oI vmo, oJ ver2, .second, oI (0 : Int32), oI (0 : Int32), oI dd, oR x1, oR x2, oI (1 : Int32), .unset, .unset, .unset] [(.int (1 : Int32))]))
            refine Done.step (fun _ => XS.istore X3.here hx rfl (hb hby at_248) rfl (l' := #[oJ a, .second, oJ b, .second, oI c1, oI c2, oI mode, oI lens, oJ ver1, .second, oI vmo, oJ ver2, .second, oI (0 : Int32), oI (0 : Int32), oI dd, oR x1, oR x2, oI (1 : Int32), oI (1 : Int32), .unset, .unset]) rfl) ?_
            show Done _ p e below s _ _ (T3.setTop (mkF m 250 #[oJ a, .second, oJ b, .second, oI c1, oI c2, oI mode, oI lens, oJ ver1, .second, oI vmo, oJ ver2, .second, oI (0 : Int32), oI (0 : Int32), oI dd, oR x1, oR x2, oI (1 : Int32), oI (1 : Int32), .unset, .unset] []))
            have f5 := (f2.keep K3q all0)
            have f6 := (Em1.keep K3q)
            have f7 := (Vm1.keep K3q nin0)
            have f8 := (Cm1.keep K3q nin0)
            have f9 := (FB.keep K3q nin0)
            exact tl250 Z a0 hw a b ver1 ver2 c1 c2 mode lens vmo (0 : Int32) (0 : Int32) dd (1 : Int32) (1 : Int32) x1 bb kk ([] : List Int32) x2 bb kk ([] : List Int32) z fm T3.heap n0 Zs3 f5 SC hz SF rF f6 f7 f8 f9 Em2 Vm2 Cm2 f9 (fun c hc => absurd hc List.not_mem_nil) (Nat.le_of_ble_eq_true rfl) (fun c hc => absurd hc List.not_mem_nil) (Nat.le_of_ble_eq_true rfl) hv1 hv2 (bP_t ⟨hc4.symm, rfl⟩).symm hx hby hml hown hret hlk hZ hS hk rfl (X3.mono (by decide) (by decide)) N3
          · refine Done.step (fun _ => XS.ifYes X3.here hx rfl (pc0 := 235) (pc' := 247) rfl (hb hby at_235) rfl (XT.ll_ne_t hc4) (by decide) (by decide)) ?_
            show Done _ p e below s _ _ (T3.setTop (mkF m 247 #[oJ a, .second, oJ b, .second, oI c1, oI c2, oI mode, oI lens, oJ ver1, .second, oI vmo, oJ ver2, .second, oI (0 : Int32), oI (0 : Int32), oI dd, oR x1, oR x2, oI (1 : Int32), .unset, .unset, .unset] []))
            refine Done.step (fun _ => XT.iconstV X3.here hx rfl (0 : Int32) (hb hby at_247) (by decide)) ?_
            show Done _ p e below s _ _ (T3.setTop (mkF m 248 #[oJ a, .second, oJ b, .second, oI c1, oI c2, oI mode, oI lens, oJ ver1, .second, oI vmo, oJ ver2, .second, oI (0 : Int32), oI (0 : Int32), oI dd, oR x1, oR x2, oI (1 : Int32), .unset, .unset, .unset] [(.int (0 : Int32))]))
            refine Done.step (fun _ => XS.istore X3.here hx rfl (hb hby at_248) rfl (l' := #[oJ a, .second, oJ b, .second, oI c1, oI c2, oI mode, oI lens, oJ ver1, .second, oI vmo, oJ ver2, .second, oI (0 : Int32), oI (0 : Int32), oI dd, oR x1, oR x2, oI (1 : Int32), oI (0 : Int32), .unset, .unset]) rfl) ?_
            show Done _ p e below s _ _ (T3.setTop (mkF m 250 #[oJ a, .second, oJ b, .second, oI c1, oI c2, oI mode, oI lens, oJ ver1, .second, oI vmo, oJ ver2, .second, oI (0 : Int32), oI (0 : Int32), oI dd, oR x1, oR x2, oI (1 : Int32), oI (0 : Int32), .unset, .unset] []))
            have f10 := (f2.keep K3q all0)
            have f11 := (Em1.keep K3q)
            have f12 := (Vm1.keep K3q nin0)
            have f13 := (Cm1.keep K3q nin0)
            have f14 := (FB.keep K3q nin0)
            exact tl250 Z a0 hw a b ver1 ver2 c1 c2 mode lens vmo (0 : Int32) (0 : Int32) dd (1 : Int32) (0 : Int32) x1 bb kk ([] : List Int32) x2 bb kk ([] : List Int32) z fm T3.heap n0 Zs3 f10 SC hz SF rF f11 f12 f13 f14 Em2 Vm2 Cm2 f14 (fun c hc => absurd hc List.not_mem_nil) (Nat.le_of_ble_eq_true rfl) (fun c hc => absurd hc List.not_mem_nil) (Nat.le_of_ble_eq_true rfl) hv1 hv2 (bP_f (fun q => hc4 q.1.symm)).symm hx hby hml hown hret hlk hZ hS hk rfl (X3.mono (by decide) (by decide)) N3
        · rw [hv]
          show Done _ p e below s _ _ (T1.setTop (mkF m 144 #[oJ a, .second, oJ b, .second, oI c1, oI c2, oI mode, oI lens, oJ ver1, .second, oI vmo, oJ ver2, .second, oI (0 : Int32), oI (1 : Int32), oI dd, oR x1, .unset, .unset, .unset, .unset, .unset] []))
          refine Done.step (fun _ => XS.iload X1.here hx rfl (hb hby at_144) rfl) ?_
          show Done _ p e below s _ _ (T1.setTop (mkF m 146 #[oJ a, .second, oJ b, .second, oI c1, oI c2, oI mode, oI lens, oJ ver1, .second, oI vmo, oJ ver2, .second, oI (0 : Int32), oI (1 : Int32), oI dd, oR x1, .unset, .unset, .unset, .unset, .unset] [(.int (1 : Int32))]))
          refine Done.step (fun _ => XS.iload X1.here hx rfl (hb hby at_146) rfl) ?_
          show Done _ p e below s _ _ (T1.setTop (mkF m 148 #[oJ a, .second, oJ b, .second, oI c1, oI c2, oI mode, oI lens, oJ ver1, .second, oI vmo, oJ ver2, .second, oI (0 : Int32), oI (1 : Int32), oI dd, oR x1, .unset, .unset, .unset, .unset, .unset] [(.int dd), (.int (1 : Int32))]))
          have f15 := (O0.keep K1q all0)
          refine Done.callS X1 hx hZ hown (wAt hw 5 rfl) (wAt hw 6 rfl) (wAt hw 7 rfl) (wAt hw 8 rfl) (by decide) (rmM1 l Z a0 hw [] dd z T1.heap n0 Zs1 f15 SC hz) (fun _ _ => trivial) rfl (g := (mkF m 148 #[oJ a, .second, oJ b, .second, oI c1, oI c2, oI mode, oI lens, oJ ver1, .second, oI vmo, oJ ver2, .second, oI (0 : Int32), oI (1 : Int32), oI dd, oR x1, .unset, .unset, .unset, .unset, .unset] [(.int dd), (.int (1 : Int32))])) rfl (by rw [hml]; rfl) [(.int (1 : Int32)), (.int dd)] [] 0 (lenOf pd_13 rfl) rfl rfl (by show 2 * 0 + _ ≤ _; exact Nat.le_of_eq rfl) (hb hby at_148) (by decide) (by decide) (by decide) (by decide) ?_
          intro T16 v16 L16 X16 q16
          obtain ⟨x2, t2, kb2, rfl, Nq16, K16q, Em2, Vm2, Cm2, Km2⟩ := q16
          have N16 := Fr.app N1 Nq16
          have Zs16 := Nat.le_trans Zs1 K16q.1
          have hk := Nat.le_trans hk K16q.1
          show Done _ p e below s _ _ (T16.setTop (mkF m 151 #[oJ a, .second, oJ b, .second, oI c1, oI c2, oI mode, oI lens, oJ ver1, .second, oI vmo, oJ ver2, .second, oI (0 : Int32), oI (1 : Int32), oI dd, oR x1, .unset, .unset, .unset, .unset, .unset] [(.ref x2)]))
          refine Done.step (fun _ => XS.astore X16.here hx rfl (hb hby at_151) rfl rfl (l' := #[oJ a, .second, oJ b, .second, oI c1, oI c2, oI mode, oI lens, oJ ver1, .second, oI vmo, oJ ver2, .second, oI (0 : Int32), oI (1 : Int32), oI dd, oR x1, oR x2, .unset, .unset, .unset, .unset]) rfl) ?_
          show Done _ p e below s _ _ (T16.setTop (mkF m 153 #[oJ a, .second, oJ b, .second, oI c1, oI c2, oI mode, oI lens, oJ ver1, .second, oI vmo, oJ ver2, .second, oI (0 : Int32), oI (1 : Int32), oI dd, oR x1, oR x2, .unset, .unset, .unset, .unset] []))
          refine Done.step (fun _ => XS.iload X16.here hx rfl (hb hby at_153) rfl) ?_
          show Done _ p e below s _ _ (T16.setTop (mkF m 155 #[oJ a, .second, oJ b, .second, oI c1, oI c2, oI mode, oI lens, oJ ver1, .second, oI vmo, oJ ver2, .second, oI (0 : Int32), oI (1 : Int32), oI dd, oR x1, oR x2, .unset, .unset, .unset, .unset] [(.int (0 : Int32))]))
          refine Done.step (fun _ => XS.iload X16.here hx rfl (hb hby at_155) rfl) ?_
          show Done _ p e below s _ _ (T16.setTop (mkF m 157 #[oJ a, .second, oJ b, .second, oI c1, oI c2, oI mode, oI lens, oJ ver1, .second, oI vmo, oJ ver2, .second, oI (0 : Int32), oI (1 : Int32), oI dd, oR x1, oR x2, .unset, .unset, .unset, .unset] [(.int (1 : Int32)), (.int (0 : Int32))]))
          refine Done.step (fun _ => XS.icmpYes X16.here hx rfl (pc0 := 157) (pc' := 227) rfl (hb hby at_157) rfl (XT.ii_ne_t (by decide)) (by decide) (by decide)) ?_
          show Done _ p e below s _ _ (T16.setTop (mkF m 227 #[oJ a, .second, oJ b, .second, oI c1, oI c2, oI mode, oI lens, oJ ver1, .second, oI vmo, oJ ver2, .second, oI (0 : Int32), oI (1 : Int32), oI dd, oR x1, oR x2, .unset, .unset, .unset, .unset] []))
          refine Done.step (fun _ => XT.iconstV X16.here hx rfl (0 : Int32) (hb hby at_227) (by decide)) ?_
          show Done _ p e below s _ _ (T16.setTop (mkF m 228 #[oJ a, .second, oJ b, .second, oI c1, oI c2, oI mode, oI lens, oJ ver1, .second, oI vmo, oJ ver2, .second, oI (0 : Int32), oI (1 : Int32), oI dd, oR x1, oR x2, .unset, .unset, .unset, .unset] [(.int (0 : Int32))]))
          refine Done.step (fun _ => XS.istore X16.here hx rfl (hb hby at_228) rfl (l' := #[oJ a, .second, oJ b, .second, oI c1, oI c2, oI mode, oI lens, oJ ver1, .second, oI vmo, oJ ver2, .second, oI (0 : Int32), oI (1 : Int32), oI dd, oR x1, oR x2, oI (0 : Int32), .unset, .unset, .unset]) rfl) ?_
          show Done _ p e below s _ _ (T16.setTop (mkF m 230 #[oJ a, .second, oJ b, .second, oI c1, oI c2, oI mode, oI lens, oJ ver1, .second, oI vmo, oJ ver2, .second, oI (0 : Int32), oI (1 : Int32), oI dd, oR x1, oR x2, oI (0 : Int32), .unset, .unset, .unset] []))
          refine Done.step (fun _ => XT.lload X16.here hx rfl (hb hby at_230) rfl) ?_
          show Done _ p e below s _ _ (T16.setTop (mkF m 232 #[oJ a, .second, oJ b, .second, oI c1, oI c2, oI mode, oI lens, oJ ver1, .second, oI vmo, oJ ver2, .second, oI (0 : Int32), oI (1 : Int32), oI dd, oR x1, oR x2, oI (0 : Int32), .unset, .unset, .unset] [(.long ver1)]))
          refine Done.step (fun _ => XT.lload X16.here hx rfl (hb hby at_232) rfl) ?_
          show Done _ p e below s _ _ (T16.setTop (mkF m 234 #[oJ a, .second, oJ b, .second, oI c1, oI c2, oI mode, oI lens, oJ ver1, .second, oI vmo, oJ ver2, .second, oI (0 : Int32), oI (1 : Int32), oI dd, oR x1, oR x2, oI (0 : Int32), .unset, .unset, .unset] [(.long ver2), (.long ver1)]))
          refine Done.step (fun _ => XT.lcmp X16.here hx rfl (hb hby at_234) rfl) ?_
          show Done _ p e below s _ _ (T16.setTop (mkF m 235 #[oJ a, .second, oJ b, .second, oI c1, oI c2, oI mode, oI lens, oJ ver1, .second, oI vmo, oJ ver2, .second, oI (0 : Int32), oI (1 : Int32), oI dd, oR x1, oR x2, oI (0 : Int32), .unset, .unset, .unset] [(.int (XT.cmpL ver1 ver2))]))
          by_cases hc17 : ver1 = ver2
          · refine Done.step (fun _ => XS.ifNo X16.here hx rfl (hb hby at_235) rfl (XT.ll_ne_f hc17)) ?_
            show Done _ p e below s _ _ (T16.setTop (mkF m 238 #[oJ a, .second, oJ b, .second, oI c1, oI c2, oI mode, oI lens, oJ ver1, .second, oI vmo, oJ ver2, .second, oI (0 : Int32), oI (1 : Int32), oI dd, oR x1, oR x2, oI (0 : Int32), .unset, .unset, .unset] []))
            refine Done.step (fun _ => XS.iload X16.here hx rfl (hb hby at_238) rfl) ?_
            show Done _ p e below s _ _ (T16.setTop (mkF m 240 #[oJ a, .second, oJ b, .second, oI c1, oI c2, oI mode, oI lens, oJ ver1, .second, oI vmo, oJ ver2, .second, oI (0 : Int32), oI (1 : Int32), oI dd, oR x1, oR x2, oI (0 : Int32), .unset, .unset, .unset] [(.int (0 : Int32))]))
            refine Done.step (fun _ => XS.ifYes X16.here hx rfl (pc0 := 240) (pc' := 247) rfl (hb hby at_240) rfl (XT.i0_eq_t rfl) (by decide) (by decide)) ?_
            show Done _ p e below s _ _ (T16.setTop (mkF m 247 #[oJ a, .second, oJ b, .second, oI c1, oI c2, oI mode, oI lens, oJ ver1, .second, oI vmo, oJ ver2, .second, oI (0 : Int32), oI (1 : Int32), oI dd, oR x1, oR x2, oI (0 : Int32), .unset, .unset, .unset] []))
            refine Done.step (fun _ => XT.iconstV X16.here hx rfl (0 : Int32) (hb hby at_247) (by decide)) ?_
            show Done _ p e below s _ _ (T16.setTop (mkF m 248 #[oJ a, .second, oJ b, .second, oI c1, oI c2, oI mode, oI lens, oJ ver1, .second, oI vmo, oJ ver2, .second, oI (0 : Int32), oI (1 : Int32), oI dd, oR x1, oR x2, oI (0 : Int32), .unset, .unset, .unset] [(.int (0 : Int32))]))
            refine Done.step (fun _ => XS.istore X16.here hx rfl (hb hby at_248) rfl (l' := #[oJ a, .second, oJ b, .second, oI c1, oI c2, oI mode, oI lens, oJ ver1, .second, oI vmo, oJ ver2, .second, oI (0 : Int32), oI (1 : Int32), oI dd, oR x1, oR x2, oI (0 : Int32), oI (0 : Int32), .unset, .unset]) rfl) ?_
            show Done _ p e below s _ _ (T16.setTop (mkF m 250 #[oJ a, .second, oJ b, .second, oI c1, oI c2, oI mode, oI lens, oJ ver1, .second, oI vmo, oJ ver2, .second, oI (0 : Int32), oI (1 : Int32), oI dd, oR x1, oR x2, oI (0 : Int32), oI (0 : Int32), .unset, .unset] []))
            have f18 := (f15.keep K16q all0)
            have f19 := (Em1.keep K16q)
            have f20 := (Vm1.keep K16q nin0)
            have f21 := (Cm1.keep K16q nin0)
            have f22 := (FB.keep K16q nin0)
            exact tl250 Z a0 hw a b ver1 ver2 c1 c2 mode lens vmo (0 : Int32) (1 : Int32) dd (0 : Int32) (0 : Int32) x1 bb kk ([] : List Int32) x2 t2 kb2 ([own_ch dd (0 : Int32)] : List Int32) z fm T16.heap n0 Zs16 f18 SC hz SF rF f19 f20 f21 f22 Em2 Vm2 Cm2 Km2 (fun c hc => absurd hc List.not_mem_nil) (Nat.le_of_ble_eq_true rfl) (fun c hc => (List.mem_cons.mp hc).elim (fun e => e ▸ own_chb dd (0 : Int32)) ((fun c hc => absurd hc List.not_mem_nil) c)) (Nat.le_of_ble_eq_true rfl) hv1 hv2 (bP_f (fun q => by have e := congrArg List.length q.2; simp at e)).symm hx hby hml hown hret hlk hZ hS hk rfl (X16.mono (by decide) (by decide)) N16
          · refine Done.step (fun _ => XS.ifYes X16.here hx rfl (pc0 := 235) (pc' := 247) rfl (hb hby at_235) rfl (XT.ll_ne_t hc17) (by decide) (by decide)) ?_
            show Done _ p e below s _ _ (T16.setTop (mkF m 247 #[oJ a, .second, oJ b, .second, oI c1, oI c2, oI mode, oI lens, oJ ver1, .second, oI vmo, oJ ver2, .second, oI (0 : Int32), oI (1 : Int32), oI dd, oR x1, oR x2, oI (0 : Int32), .unset, .unset, .unset] []))
            refine Done.step (fun _ => XT.iconstV X16.here hx rfl (0 : Int32) (hb hby at_247) (by decide)) ?_
            show Done _ p e below s _ _ (T16.setTop (mkF m 248 #[oJ a, .second, oJ b, .second, oI c1, oI c2, oI mode, oI lens, oJ ver1, .second, oI vmo, oJ ver2, .second, oI (0 : Int32), oI (1 : Int32), oI dd, oR x1, oR x2, oI (0 : Int32), .unset, .unset, .unset] [(.int (0 : Int32))]))
            refine Done.step (fun _ => XS.istore X16.here hx rfl (hb hby at_248) rfl (l' := #[oJ a, .second, oJ b, .second, oI c1, oI c2, oI mode, oI lens, oJ ver1, .second, oI vmo, oJ ver2, .second, oI (0 : Int32), oI (1 : Int32), oI dd, oR x1, oR x2, oI (0 : Int32), oI (0 : Int32), .unset, .unset]) rfl) ?_
            show Done _ p e below s _ _ (T16.setTop (mkF m 250 #[oJ a, .second, oJ b, .second, oI c1, oI c2, oI mode, oI lens, oJ ver1, .second, oI vmo, oJ ver2, .second, oI (0 : Int32), oI (1 : Int32), oI dd, oR x1, oR x2, oI (0 : Int32), oI (0 : Int32), .unset, .unset] []))
            have f23 := (f15.keep K16q all0)
            have f24 := (Em1.keep K16q)
            have f25 := (Vm1.keep K16q nin0)
            have f26 := (Cm1.keep K16q nin0)
            have f27 := (FB.keep K16q nin0)
            exact tl250 Z a0 hw a b ver1 ver2 c1 c2 mode lens vmo (0 : Int32) (1 : Int32) dd (0 : Int32) (0 : Int32) x1 bb kk ([] : List Int32) x2 t2 kb2 ([own_ch dd (0 : Int32)] : List Int32) z fm T16.heap n0 Zs16 f23 SC hz SF rF f24 f25 f26 f27 Em2 Vm2 Cm2 Km2 (fun c hc => absurd hc List.not_mem_nil) (Nat.le_of_ble_eq_true rfl) (fun c hc => (List.mem_cons.mp hc).elim (fun e => e ▸ own_chb dd (0 : Int32)) ((fun c hc => absurd hc List.not_mem_nil) c)) (Nat.le_of_ble_eq_true rfl) hv1 hv2 (bP_f (fun q => hc17 q.1.symm)).symm hx hby hml hown hret hlk hZ hS hk rfl (X16.mono (by decide) (by decide)) N16
        · rw [hv]
          show Done _ p e below s _ _ (T1.setTop (mkF m 144 #[oJ a, .second, oJ b, .second, oI c1, oI c2, oI mode, oI lens, oJ ver1, .second, oI vmo, oJ ver2, .second, oI (0 : Int32), oI (2 : Int32), oI dd, oR x1, .unset, .unset, .unset, .unset, .unset] []))
          refine Done.step (fun _ => XS.iload X1.here hx rfl (hb hby at_144) rfl) ?_
          show Done _ p e below s _ _ (T1.setTop (mkF m 146 #[oJ a, .second, oJ b, .second, oI c1, oI c2, oI mode, oI lens, oJ ver1, .second, oI vmo, oJ ver2, .second, oI (0 : Int32), oI (2 : Int32), oI dd, oR x1, .unset, .unset, .unset, .unset, .unset] [(.int (2 : Int32))]))
          refine Done.step (fun _ => XS.iload X1.here hx rfl (hb hby at_146) rfl) ?_
          show Done _ p e below s _ _ (T1.setTop (mkF m 148 #[oJ a, .second, oJ b, .second, oI c1, oI c2, oI mode, oI lens, oJ ver1, .second, oI vmo, oJ ver2, .second, oI (0 : Int32), oI (2 : Int32), oI dd, oR x1, .unset, .unset, .unset, .unset, .unset] [(.int dd), (.int (2 : Int32))]))
          have f28 := (O0.keep K1q all0)
          refine Done.callS X1 hx hZ hown (wAt hw 5 rfl) (wAt hw 6 rfl) (wAt hw 7 rfl) (wAt hw 8 rfl) (by decide) (rmM2 l Z a0 hw [] dd z T1.heap n0 Zs1 f28 SC hz) (fun _ _ => trivial) rfl (g := (mkF m 148 #[oJ a, .second, oJ b, .second, oI c1, oI c2, oI mode, oI lens, oJ ver1, .second, oI vmo, oJ ver2, .second, oI (0 : Int32), oI (2 : Int32), oI dd, oR x1, .unset, .unset, .unset, .unset, .unset] [(.int dd), (.int (2 : Int32))])) rfl (by rw [hml]; rfl) [(.int (2 : Int32)), (.int dd)] [] 0 (lenOf pd_13 rfl) rfl rfl (by show 2 * 0 + _ ≤ _; exact Nat.le_of_eq rfl) (hb hby at_148) (by decide) (by decide) (by decide) (by decide) ?_
          intro T29 v29 L29 X29 q29
          obtain ⟨x2, t2, kb2, rfl, Nq29, K29q, Em2, Vm2, Cm2, Km2⟩ := q29
          have N29 := Fr.app N1 Nq29
          have Zs29 := Nat.le_trans Zs1 K29q.1
          have hk := Nat.le_trans hk K29q.1
          show Done _ p e below s _ _ (T29.setTop (mkF m 151 #[oJ a, .second, oJ b, .second, oI c1, oI c2, oI mode, oI lens, oJ ver1, .second, oI vmo, oJ ver2, .second, oI (0 : Int32), oI (2 : Int32), oI dd, oR x1, .unset, .unset, .unset, .unset, .unset] [(.ref x2)]))
          refine Done.step (fun _ => XS.astore X29.here hx rfl (hb hby at_151) rfl rfl (l' := #[oJ a, .second, oJ b, .second, oI c1, oI c2, oI mode, oI lens, oJ ver1, .second, oI vmo, oJ ver2, .second, oI (0 : Int32), oI (2 : Int32), oI dd, oR x1, oR x2, .unset, .unset, .unset, .unset]) rfl) ?_
          show Done _ p e below s _ _ (T29.setTop (mkF m 153 #[oJ a, .second, oJ b, .second, oI c1, oI c2, oI mode, oI lens, oJ ver1, .second, oI vmo, oJ ver2, .second, oI (0 : Int32), oI (2 : Int32), oI dd, oR x1, oR x2, .unset, .unset, .unset, .unset] []))
          refine Done.step (fun _ => XS.iload X29.here hx rfl (hb hby at_153) rfl) ?_
          show Done _ p e below s _ _ (T29.setTop (mkF m 155 #[oJ a, .second, oJ b, .second, oI c1, oI c2, oI mode, oI lens, oJ ver1, .second, oI vmo, oJ ver2, .second, oI (0 : Int32), oI (2 : Int32), oI dd, oR x1, oR x2, .unset, .unset, .unset, .unset] [(.int (0 : Int32))]))
          refine Done.step (fun _ => XS.iload X29.here hx rfl (hb hby at_155) rfl) ?_
          show Done _ p e below s _ _ (T29.setTop (mkF m 157 #[oJ a, .second, oJ b, .second, oI c1, oI c2, oI mode, oI lens, oJ ver1, .second, oI vmo, oJ ver2, .second, oI (0 : Int32), oI (2 : Int32), oI dd, oR x1, oR x2, .unset, .unset, .unset, .unset] [(.int (2 : Int32)), (.int (0 : Int32))]))
          refine Done.step (fun _ => XS.icmpYes X29.here hx rfl (pc0 := 157) (pc' := 227) rfl (hb hby at_157) rfl (XT.ii_ne_t (by decide)) (by decide) (by decide)) ?_
          show Done _ p e below s _ _ (T29.setTop (mkF m 227 #[oJ a, .second, oJ b, .second, oI c1, oI c2, oI mode, oI lens, oJ ver1, .second, oI vmo, oJ ver2, .second, oI (0 : Int32), oI (2 : Int32), oI dd, oR x1, oR x2, .unset, .unset, .unset, .unset] []))
          refine Done.step (fun _ => XT.iconstV X29.here hx rfl (0 : Int32) (hb hby at_227) (by decide)) ?_
          show Done _ p e below s _ _ (T29.setTop (mkF m 228 #[oJ a, .second, oJ b, .second, oI c1, oI c2, oI mode, oI lens, oJ ver1, .second, oI vmo, oJ ver2, .second, oI (0 : Int32), oI (2 : Int32), oI dd, oR x1, oR x2, .unset, .unset, .unset, .unset] [(.int (0 : Int32))]))
          refine Done.step (fun _ => XS.istore X29.here hx rfl (hb hby at_228) rfl (l' := #[oJ a, .second, oJ b, .second, oI c1, oI c2, oI mode, oI lens, oJ ver1, .second, oI vmo, oJ ver2, .second, oI (0 : Int32), oI (2 : Int32), oI dd, oR x1, oR x2, oI (0 : Int32), .unset, .unset, .unset]) rfl) ?_
          show Done _ p e below s _ _ (T29.setTop (mkF m 230 #[oJ a, .second, oJ b, .second, oI c1, oI c2, oI mode, oI lens, oJ ver1, .second, oI vmo, oJ ver2, .second, oI (0 : Int32), oI (2 : Int32), oI dd, oR x1, oR x2, oI (0 : Int32), .unset, .unset, .unset] []))
          refine Done.step (fun _ => XT.lload X29.here hx rfl (hb hby at_230) rfl) ?_
          show Done _ p e below s _ _ (T29.setTop (mkF m 232 #[oJ a, .second, oJ b, .second, oI c1, oI c2, oI mode, oI lens, oJ ver1, .second, oI vmo, oJ ver2, .second, oI (0 : Int32), oI (2 : Int32), oI dd, oR x1, oR x2, oI (0 : Int32), .unset, .unset, .unset] [(.long ver1)]))
          refine Done.step (fun _ => XT.lload X29.here hx rfl (hb hby at_232) rfl) ?_
          show Done _ p e below s _ _ (T29.setTop (mkF m 234 #[oJ a, .second, oJ b, .second, oI c1, oI c2, oI mode, oI lens, oJ ver1, .second, oI vmo, oJ ver2, .second, oI (0 : Int32), oI (2 : Int32), oI dd, oR x1, oR x2, oI (0 : Int32), .unset, .unset, .unset] [(.long ver2), (.long ver1)]))
          refine Done.step (fun _ => XT.lcmp X29.here hx rfl (hb hby at_234) rfl) ?_
          show Done _ p e below s _ _ (T29.setTop (mkF m 235 #[oJ a, .second, oJ b, .second, oI c1, oI c2, oI mode, oI lens, oJ ver1, .second, oI vmo, oJ ver2, .second, oI (0 : Int32), oI (2 : Int32), oI dd, oR x1, oR x2, oI (0 : Int32), .unset, .unset, .unset] [(.int (XT.cmpL ver1 ver2))]))
          by_cases hc30 : ver1 = ver2
          · refine Done.step (fun _ => XS.ifNo X29.here hx rfl (hb hby at_235) rfl (XT.ll_ne_f hc30)) ?_
            show Done _ p e below s _ _ (T29.setTop (mkF m 238 #[oJ a, .second, oJ b, .second, oI c1, oI c2, oI mode, oI lens, oJ ver1, .second, oI vmo, oJ ver2, .second, oI (0 : Int32), oI (2 : Int32), oI dd, oR x1, oR x2, oI (0 : Int32), .unset, .unset, .unset] []))
            refine Done.step (fun _ => XS.iload X29.here hx rfl (hb hby at_238) rfl) ?_
            show Done _ p e below s _ _ (T29.setTop (mkF m 240 #[oJ a, .second, oJ b, .second, oI c1, oI c2, oI mode, oI lens, oJ ver1, .second, oI vmo, oJ ver2, .second, oI (0 : Int32), oI (2 : Int32), oI dd, oR x1, oR x2, oI (0 : Int32), .unset, .unset, .unset] [(.int (0 : Int32))]))
            refine Done.step (fun _ => XS.ifYes X29.here hx rfl (pc0 := 240) (pc' := 247) rfl (hb hby at_240) rfl (XT.i0_eq_t rfl) (by decide) (by decide)) ?_
            show Done _ p e below s _ _ (T29.setTop (mkF m 247 #[oJ a, .second, oJ b, .second, oI c1, oI c2, oI mode, oI lens, oJ ver1, .second, oI vmo, oJ ver2, .second, oI (0 : Int32), oI (2 : Int32), oI dd, oR x1, oR x2, oI (0 : Int32), .unset, .unset, .unset] []))
            refine Done.step (fun _ => XT.iconstV X29.here hx rfl (0 : Int32) (hb hby at_247) (by decide)) ?_
            show Done _ p e below s _ _ (T29.setTop (mkF m 248 #[oJ a, .second, oJ b, .second, oI c1, oI c2, oI mode, oI lens, oJ ver1, .second, oI vmo, oJ ver2, .second, oI (0 : Int32), oI (2 : Int32), oI dd, oR x1, oR x2, oI (0 : Int32), .unset, .unset, .unset] [(.int (0 : Int32))]))
            refine Done.step (fun _ => XS.istore X29.here hx rfl (hb hby at_248) rfl (l' := #[oJ a, .second, oJ b, .second, oI c1, oI c2, oI mode, oI lens, oJ ver1, .second, oI vmo, oJ ver2, .second, oI (0 : Int32), oI (2 : Int32), oI dd, oR x1, oR x2, oI (0 : Int32), oI (0 : Int32), .unset, .unset]) rfl) ?_
            show Done _ p e below s _ _ (T29.setTop (mkF m 250 #[oJ a, .second, oJ b, .second, oI c1, oI c2, oI mode, oI lens, oJ ver1, .second, oI vmo, oJ ver2, .second, oI (0 : Int32), oI (2 : Int32), oI dd, oR x1, oR x2, oI (0 : Int32), oI (0 : Int32), .unset, .unset] []))
            have f31 := (f28.keep K29q all0)
            have f32 := (Em1.keep K29q)
            have f33 := (Vm1.keep K29q nin0)
            have f34 := (Cm1.keep K29q nin0)
            have f35 := (FB.keep K29q nin0)
            exact tl250 Z a0 hw a b ver1 ver2 c1 c2 mode lens vmo (0 : Int32) (2 : Int32) dd (0 : Int32) (0 : Int32) x1 bb kk ([] : List Int32) x2 t2 kb2 ([own_ch dd (0 : Int32), own_ch dd (1 : Int32)] : List Int32) z fm T29.heap n0 Zs29 f31 SC hz SF rF f32 f33 f34 f35 Em2 Vm2 Cm2 Km2 (fun c hc => absurd hc List.not_mem_nil) (Nat.le_of_ble_eq_true rfl) (fun c hc => (List.mem_cons.mp hc).elim (fun e => e ▸ own_chb dd (0 : Int32)) ((fun c hc => (List.mem_cons.mp hc).elim (fun e => e ▸ own_chb dd (1 : Int32)) ((fun c hc => absurd hc List.not_mem_nil) c)) c)) (Nat.le_of_ble_eq_true rfl) hv1 hv2 (bP_f (fun q => by have e := congrArg List.length q.2; simp at e)).symm hx hby hml hown hret hlk hZ hS hk rfl (X29.mono (by decide) (by decide)) N29
          · refine Done.step (fun _ => XS.ifYes X29.here hx rfl (pc0 := 235) (pc' := 247) rfl (hb hby at_235) rfl (XT.ll_ne_t hc30) (by decide) (by decide)) ?_
            show Done _ p e below s _ _ (T29.setTop (mkF m 247 #[oJ a, .second, oJ b, .second, oI c1, oI c2, oI mode, oI lens, oJ ver1, .second, oI vmo, oJ ver2, .second, oI (0 : Int32), oI (2 : Int32), oI dd, oR x1, oR x2, oI (0 : Int32), .unset, .unset, .unset] []))
            refine Done.step (fun _ => XT.iconstV X29.here hx rfl (0 : Int32) (hb hby at_247) (by decide)) ?_
            show Done _ p e below s _ _ (T29.setTop (mkF m 248 #[oJ a, .second, oJ b, .second, oI c1, oI c2, oI mode, oI lens, oJ ver1, .second, oI vmo, oJ ver2, .second, oI (0 : Int32), oI (2 : Int32), oI dd, oR x1, oR x2, oI (0 : Int32), .unset, .unset, .unset] [(.int (0 : Int32))]))
            refine Done.step (fun _ => XS.istore X29.here hx rfl (hb hby at_248) rfl (l' := #[oJ a, .second, oJ b, .second, oI c1, oI c2, oI mode, oI lens, oJ ver1, .second, oI vmo, oJ ver2, .second, oI (0 : Int32), oI (2 : Int32), oI dd, oR x1, oR x2, oI (0 : Int32), oI (0 : Int32), .unset, .unset]) rfl) ?_
            show Done _ p e below s _ _ (T29.setTop (mkF m 250 #[oJ a, .second, oJ b, .second, oI c1, oI c2, oI mode, oI lens, oJ ver1, .second, oI vmo, oJ ver2, .second, oI (0 : Int32), oI (2 : Int32), oI dd, oR x1, oR x2, oI (0 : Int32), oI (0 : Int32), .unset, .unset] []))
            have f36 := (f28.keep K29q all0)
            have f37 := (Em1.keep K29q)
            have f38 := (Vm1.keep K29q nin0)
            have f39 := (Cm1.keep K29q nin0)
            have f40 := (FB.keep K29q nin0)
            exact tl250 Z a0 hw a b ver1 ver2 c1 c2 mode lens vmo (0 : Int32) (2 : Int32) dd (0 : Int32) (0 : Int32) x1 bb kk ([] : List Int32) x2 t2 kb2 ([own_ch dd (0 : Int32), own_ch dd (1 : Int32)] : List Int32) z fm T29.heap n0 Zs29 f36 SC hz SF rF f37 f38 f39 f40 Em2 Vm2 Cm2 Km2 (fun c hc => absurd hc List.not_mem_nil) (Nat.le_of_ble_eq_true rfl) (fun c hc => (List.mem_cons.mp hc).elim (fun e => e ▸ own_chb dd (0 : Int32)) ((fun c hc => (List.mem_cons.mp hc).elim (fun e => e ▸ own_chb dd (1 : Int32)) ((fun c hc => absurd hc List.not_mem_nil) c)) c)) (Nat.le_of_ble_eq_true rfl) hv1 hv2 (bP_f (fun q => hc30 q.1.symm)).symm hx hby hml hown hret hlk hZ hS hk rfl (X29.mono (by decide) (by decide)) N29
        · rw [hv]
          show Done _ p e below s _ _ (T1.setTop (mkF m 144 #[oJ a, .second, oJ b, .second, oI c1, oI c2, oI mode, oI lens, oJ ver1, .second, oI vmo, oJ ver2, .second, oI (0 : Int32), oI (3 : Int32), oI dd, oR x1, .unset, .unset, .unset, .unset, .unset] []))
          refine Done.step (fun _ => XS.iload X1.here hx rfl (hb hby at_144) rfl) ?_
          show Done _ p e below s _ _ (T1.setTop (mkF m 146 #[oJ a, .second, oJ b, .second, oI c1, oI c2, oI mode, oI lens, oJ ver1, .second, oI vmo, oJ ver2, .second, oI (0 : Int32), oI (3 : Int32), oI dd, oR x1, .unset, .unset, .unset, .unset, .unset] [(.int (3 : Int32))]))
          refine Done.step (fun _ => XS.iload X1.here hx rfl (hb hby at_146) rfl) ?_
          show Done _ p e below s _ _ (T1.setTop (mkF m 148 #[oJ a, .second, oJ b, .second, oI c1, oI c2, oI mode, oI lens, oJ ver1, .second, oI vmo, oJ ver2, .second, oI (0 : Int32), oI (3 : Int32), oI dd, oR x1, .unset, .unset, .unset, .unset, .unset] [(.int dd), (.int (3 : Int32))]))
          have f41 := (O0.keep K1q all0)
          refine Done.callS X1 hx hZ hown (wAt hw 5 rfl) (wAt hw 6 rfl) (wAt hw 7 rfl) (wAt hw 8 rfl) (by decide) (rmM3 l Z a0 hw [] dd z T1.heap n0 Zs1 f41 SC hz) (fun _ _ => trivial) rfl (g := (mkF m 148 #[oJ a, .second, oJ b, .second, oI c1, oI c2, oI mode, oI lens, oJ ver1, .second, oI vmo, oJ ver2, .second, oI (0 : Int32), oI (3 : Int32), oI dd, oR x1, .unset, .unset, .unset, .unset, .unset] [(.int dd), (.int (3 : Int32))])) rfl (by rw [hml]; rfl) [(.int (3 : Int32)), (.int dd)] [] 0 (lenOf pd_13 rfl) rfl rfl (by show 2 * 0 + _ ≤ _; exact Nat.le_of_eq rfl) (hb hby at_148) (by decide) (by decide) (by decide) (by decide) ?_
          intro T42 v42 L42 X42 q42
          obtain ⟨x2, t2, kb2, rfl, Nq42, K42q, Em2, Vm2, Cm2, Km2⟩ := q42
          have N42 := Fr.app N1 Nq42
          have Zs42 := Nat.le_trans Zs1 K42q.1
          have hk := Nat.le_trans hk K42q.1
          show Done _ p e below s _ _ (T42.setTop (mkF m 151 #[oJ a, .second, oJ b, .second, oI c1, oI c2, oI mode, oI lens, oJ ver1, .second, oI vmo, oJ ver2, .second, oI (0 : Int32), oI (3 : Int32), oI dd, oR x1, .unset, .unset, .unset, .unset, .unset] [(.ref x2)]))
          refine Done.step (fun _ => XS.astore X42.here hx rfl (hb hby at_151) rfl rfl (l' := #[oJ a, .second, oJ b, .second, oI c1, oI c2, oI mode, oI lens, oJ ver1, .second, oI vmo, oJ ver2, .second, oI (0 : Int32), oI (3 : Int32), oI dd, oR x1, oR x2, .unset, .unset, .unset, .unset]) rfl) ?_
          show Done _ p e below s _ _ (T42.setTop (mkF m 153 #[oJ a, .second, oJ b, .second, oI c1, oI c2, oI mode, oI lens, oJ ver1, .second, oI vmo, oJ ver2, .second, oI (0 : Int32), oI (3 : Int32), oI dd, oR x1, oR x2, .unset, .unset, .unset, .unset] []))
          refine Done.step (fun _ => XS.iload X42.here hx rfl (hb hby at_153) rfl) ?_
          show Done _ p e below s _ _ (T42.setTop (mkF m 155 #[oJ a, .second, oJ b, .second, oI c1, oI c2, oI mode, oI lens, oJ ver1, .second, oI vmo, oJ ver2, .second, oI (0 : Int32), oI (3 : Int32), oI dd, oR x1, oR x2, .unset, .unset, .unset, .unset] [(.int (0 : Int32))]))
          refine Done.step (fun _ => XS.iload X42.here hx rfl (hb hby at_155) rfl) ?_
          show Done _ p e below s _ _ (T42.setTop (mkF m 157 #[oJ a, .second, oJ b, .second, oI c1, oI c2, oI mode, oI lens, oJ ver1, .second, oI vmo, oJ ver2, .second, oI (0 : Int32), oI (3 : Int32), oI dd, oR x1, oR x2, .unset, .unset, .unset, .unset] [(.int (3 : Int32)), (.int (0 : Int32))]))
          refine Done.step (fun _ => XS.icmpYes X42.here hx rfl (pc0 := 157) (pc' := 227) rfl (hb hby at_157) rfl (XT.ii_ne_t (by decide)) (by decide) (by decide)) ?_
          show Done _ p e below s _ _ (T42.setTop (mkF m 227 #[oJ a, .second, oJ b, .second, oI c1, oI c2, oI mode, oI lens, oJ ver1, .second, oI vmo, oJ ver2, .second, oI (0 : Int32), oI (3 : Int32), oI dd, oR x1, oR x2, .unset, .unset, .unset, .unset] []))
          refine Done.step (fun _ => XT.iconstV X42.here hx rfl (0 : Int32) (hb hby at_227) (by decide)) ?_
          show Done _ p e below s _ _ (T42.setTop (mkF m 228 #[oJ a, .second, oJ b, .second, oI c1, oI c2, oI mode, oI lens, oJ ver1, .second, oI vmo, oJ ver2, .second, oI (0 : Int32), oI (3 : Int32), oI dd, oR x1, oR x2, .unset, .unset, .unset, .unset] [(.int (0 : Int32))]))
          refine Done.step (fun _ => XS.istore X42.here hx rfl (hb hby at_228) rfl (l' := #[oJ a, .second, oJ b, .second, oI c1, oI c2, oI mode, oI lens, oJ ver1, .second, oI vmo, oJ ver2, .second, oI (0 : Int32), oI (3 : Int32), oI dd, oR x1, oR x2, oI (0 : Int32), .unset, .unset, .unset]) rfl) ?_
          show Done _ p e below s _ _ (T42.setTop (mkF m 230 #[oJ a, .second, oJ b, .second, oI c1, oI c2, oI mode, oI lens, oJ ver1, .second, oI vmo, oJ ver2, .second, oI (0 : Int32), oI (3 : Int32), oI dd, oR x1, oR x2, oI (0 : Int32), .unset, .unset, .unset] []))
          refine Done.step (fun _ => XT.lload X42.here hx rfl (hb hby at_230) rfl) ?_
          show Done _ p e below s _ _ (T42.setTop (mkF m 232 #[oJ a, .second, oJ b, .second, oI c1, oI c2, oI mode, oI lens, oJ ver1, .second, oI vmo, oJ ver2, .second, oI (0 : Int32), oI (3 : Int32), oI dd, oR x1, oR x2, oI (0 : Int32), .unset, .unset, .unset] [(.long ver1)]))
          refine Done.step (fun _ => XT.lload X42.here hx rfl (hb hby at_232) rfl) ?_
          show Done _ p e below s _ _ (T42.setTop (mkF m 234 #[oJ a, .second, oJ b, .second, oI c1, oI c2, oI mode, oI lens, oJ ver1, .second, oI vmo, oJ ver2, .second, oI (0 : Int32), oI (3 : Int32), oI dd, oR x1, oR x2, oI (0 : Int32), .unset, .unset, .unset] [(.long ver2), (.long ver1)]))
          refine Done.step (fun _ => XT.lcmp X42.here hx rfl (hb hby at_234) rfl) ?_
          show Done _ p e below s _ _ (T42.setTop (mkF m 235 #[oJ a, .second, oJ b, .second, oI c1, oI c2, oI mode, oI lens, oJ ver1, .second, oI vmo, oJ ver2, .second, oI (0 : Int32), oI (3 : Int32), oI dd, oR x1, oR x2, oI (0 : Int32), .unset, .unset, .unset] [(.int (XT.cmpL ver1 ver2))]))
          by_cases hc43 : ver1 = ver2
          · refine Done.step (fun _ => XS.ifNo X42.here hx rfl (hb hby at_235) rfl (XT.ll_ne_f hc43)) ?_
            show Done _ p e below s _ _ (T42.setTop (mkF m 238 #[oJ a, .second, oJ b, .second, oI c1, oI c2, oI mode, oI lens, oJ ver1, .second, oI vmo, oJ ver2, .second, oI (0 : Int32), oI (3 : Int32), oI dd, oR x1, oR x2, oI (0 : Int32), .unset, .unset, .unset] []))
            refine Done.step (fun _ => XS.iload X42.here hx rfl (hb hby at_238) rfl) ?_
            show Done _ p e below s _ _ (T42.setTop (mkF m 240 #[oJ a, .second, oJ b, .second, oI c1, oI c2, oI mode, oI lens, oJ ver1, .second, oI vmo, oJ ver2, .second, oI (0 : Int32), oI (3 : Int32), oI dd, oR x1, oR x2, oI (0 : Int32), .unset, .unset, .unset] [(.int (0 : Int32))]))
            refine Done.step (fun _ => XS.ifYes X42.here hx rfl (pc0 := 240) (pc' := 247) rfl (hb hby at_240) rfl (XT.i0_eq_t rfl) (by decide) (by decide)) ?_
            show Done _ p e below s _ _ (T42.setTop (mkF m 247 #[oJ a, .second, oJ b, .second, oI c1, oI c2, oI mode, oI lens, oJ ver1, .second, oI vmo, oJ ver2, .second, oI (0 : Int32), oI (3 : Int32), oI dd, oR x1, oR x2, oI (0 : Int32), .unset, .unset, .unset] []))
            refine Done.step (fun _ => XT.iconstV X42.here hx rfl (0 : Int32) (hb hby at_247) (by decide)) ?_
            show Done _ p e below s _ _ (T42.setTop (mkF m 248 #[oJ a, .second, oJ b, .second, oI c1, oI c2, oI mode, oI lens, oJ ver1, .second, oI vmo, oJ ver2, .second, oI (0 : Int32), oI (3 : Int32), oI dd, oR x1, oR x2, oI (0 : Int32), .unset, .unset, .unset] [(.int (0 : Int32))]))
            refine Done.step (fun _ => XS.istore X42.here hx rfl (hb hby at_248) rfl (l' := #[oJ a, .second, oJ b, .second, oI c1, oI c2, oI mode, oI lens, oJ ver1, .second, oI vmo, oJ ver2, .second, oI (0 : Int32), oI (3 : Int32), oI dd, oR x1, oR x2, oI (0 : Int32), oI (0 : Int32), .unset, .unset]) rfl) ?_
            show Done _ p e below s _ _ (T42.setTop (mkF m 250 #[oJ a, .second, oJ b, .second, oI c1, oI c2, oI mode, oI lens, oJ ver1, .second, oI vmo, oJ ver2, .second, oI (0 : Int32), oI (3 : Int32), oI dd, oR x1, oR x2, oI (0 : Int32), oI (0 : Int32), .unset, .unset] []))
            have f44 := (f41.keep K42q all0)
            have f45 := (Em1.keep K42q)
            have f46 := (Vm1.keep K42q nin0)
            have f47 := (Cm1.keep K42q nin0)
            have f48 := (FB.keep K42q nin0)
            exact tl250 Z a0 hw a b ver1 ver2 c1 c2 mode lens vmo (0 : Int32) (3 : Int32) dd (0 : Int32) (0 : Int32) x1 bb kk ([] : List Int32) x2 t2 kb2 ([own_ch dd (0 : Int32), own_ch dd (1 : Int32), own_ch dd (2 : Int32)] : List Int32) z fm T42.heap n0 Zs42 f44 SC hz SF rF f45 f46 f47 f48 Em2 Vm2 Cm2 Km2 (fun c hc => absurd hc List.not_mem_nil) (Nat.le_of_ble_eq_true rfl) (fun c hc => (List.mem_cons.mp hc).elim (fun e => e ▸ own_chb dd (0 : Int32)) ((fun c hc => (List.mem_cons.mp hc).elim (fun e => e ▸ own_chb dd (1 : Int32)) ((fun c hc => (List.mem_cons.mp hc).elim (fun e => e ▸ own_chb dd (2 : Int32)) ((fun c hc => absurd hc List.not_mem_nil) c)) c)) c)) (Nat.le_of_ble_eq_true rfl) hv1 hv2 (bP_f (fun q => by have e := congrArg List.length q.2; simp at e)).symm hx hby hml hown hret hlk hZ hS hk rfl (X42.mono (by decide) (by decide)) N42
          · refine Done.step (fun _ => XS.ifYes X42.here hx rfl (pc0 := 235) (pc' := 247) rfl (hb hby at_235) rfl (XT.ll_ne_t hc43) (by decide) (by decide)) ?_
            show Done _ p e below s _ _ (T42.setTop (mkF m 247 #[oJ a, .second, oJ b, .second, oI c1, oI c2, oI mode, oI lens, oJ ver1, .second, oI vmo, oJ ver2, .second, oI (0 : Int32), oI (3 : Int32), oI dd, oR x1, oR x2, oI (0 : Int32), .unset, .unset, .unset] []))
            refine Done.step (fun _ => XT.iconstV X42.here hx rfl (0 : Int32) (hb hby at_247) (by decide)) ?_
            show Done _ p e below s _ _ (T42.setTop (mkF m 248 #[oJ a, .second, oJ b, .second, oI c1, oI c2, oI mode, oI lens, oJ ver1, .second, oI vmo, oJ ver2, .second, oI (0 : Int32), oI (3 : Int32), oI dd, oR x1, oR x2, oI (0 : Int32), .unset, .unset, .unset] [(.int (0 : Int32))]))
            refine Done.step (fun _ => XS.istore X42.here hx rfl (hb hby at_248) rfl (l' := #[oJ a, .second, oJ b, .second, oI c1, oI c2, oI mode, oI lens, oJ ver1, .second, oI vmo, oJ ver2, .second, oI (0 : Int32), oI (3 : Int32), oI dd, oR x1, oR x2, oI (0 : Int32), oI (0 : Int32), .unset, .unset]) rfl) ?_
            show Done _ p e below s _ _ (T42.setTop (mkF m 250 #[oJ a, .second, oJ b, .second, oI c1, oI c2, oI mode, oI lens, oJ ver1, .second, oI vmo, oJ ver2, .second, oI (0 : Int32), oI (3 : Int32), oI dd, oR x1, oR x2, oI (0 : Int32), oI (0 : Int32), .unset, .unset] []))
            have f49 := (f41.keep K42q all0)
            have f50 := (Em1.keep K42q)
            have f51 := (Vm1.keep K42q nin0)
            have f52 := (Cm1.keep K42q nin0)
            have f53 := (FB.keep K42q nin0)
            exact tl250 Z a0 hw a b ver1 ver2 c1 c2 mode lens vmo (0 : Int32) (3 : Int32) dd (0 : Int32) (0 : Int32) x1 bb kk ([] : List Int32) x2 t2 kb2 ([own_ch dd (0 : Int32), own_ch dd (1 : Int32), own_ch dd (2 : Int32)] : List Int32) z fm T42.heap n0 Zs42 f49 SC hz SF rF f50 f51 f52 f53 Em2 Vm2 Cm2 Km2 (fun c hc => absurd hc List.not_mem_nil) (Nat.le_of_ble_eq_true rfl) (fun c hc => (List.mem_cons.mp hc).elim (fun e => e ▸ own_chb dd (0 : Int32)) ((fun c hc => (List.mem_cons.mp hc).elim (fun e => e ▸ own_chb dd (1 : Int32)) ((fun c hc => (List.mem_cons.mp hc).elim (fun e => e ▸ own_chb dd (2 : Int32)) ((fun c hc => absurd hc List.not_mem_nil) c)) c)) c)) (Nat.le_of_ble_eq_true rfl) hv1 hv2 (bP_f (fun q => hc43 q.1.symm)).symm hx hby hml hown hret hlk hZ hS hk rfl (X42.mono (by decide) (by decide)) N42
      · rw [hv]
        show Done _ p e below s _ _ (TL.setTop (mkF m 137 #[oJ a, .second, oJ b, .second, oI c1, oI c2, oI mode, oI lens, oJ ver1, .second, oI vmo, oJ ver2, .second, oI (1 : Int32), oI le2, oI dd, .unset, .unset, .unset, .unset, .unset, .unset] [(.int (1 : Int32))]))
        refine Done.step (fun _ => XS.iload XL.here hx rfl (hb hby at_137) rfl) ?_
        show Done _ p e below s _ _ (TL.setTop (mkF m 139 #[oJ a, .second, oJ b, .second, oI c1, oI c2, oI mode, oI lens, oJ ver1, .second, oI vmo, oJ ver2, .second, oI (1 : Int32), oI le2, oI dd, .unset, .unset, .unset, .unset, .unset, .unset] [(.int c1), (.int (1 : Int32))]))
        refine Done.callS XL hx hZ hown (wAt hw 5 rfl) (wAt hw 6 rfl) (wAt hw 7 rfl) (wAt hw 8 rfl) (by decide) (rmM1 l Z a0 hw [] c1 z h0 n0 Z0 O0 SC hz) (fun _ _ => trivial) eL (g := (mkF m 139 #[oJ a, .second, oJ b, .second, oI c1, oI c2, oI mode, oI lens, oJ ver1, .second, oI vmo, oJ ver2, .second, oI (1 : Int32), oI le2, oI dd, .unset, .unset, .unset, .unset, .unset, .unset] [(.int c1), (.int (1 : Int32))])) rfl (by rw [hml]; rfl) [(.int (1 : Int32)), (.int c1)] [] 0 (lenOf pd_13 rfl) rfl rfl (by show 2 * 0 + _ ≤ _; exact Nat.le_of_eq rfl) (hb hby at_139) (by decide) (by decide) (by decide) (by decide) ?_
        intro T54 v54 L54 X54 q54
        obtain ⟨x1, t1, kb1, rfl, Nq54, K54q, Em1, Vm1, Cm1, Km1⟩ := q54
        have N54 := Fr.app N0 Nq54
        have Zs54 := Nat.le_trans Z0 K54q.1
        have hk := Nat.le_trans hk K54q.1
        show Done _ p e below s _ _ (T54.setTop (mkF m 142 #[oJ a, .second, oJ b, .second, oI c1, oI c2, oI mode, oI lens, oJ ver1, .second, oI vmo, oJ ver2, .second, oI (1 : Int32), oI le2, oI dd, .unset, .unset, .unset, .unset, .unset, .unset] [(.ref x1)]))
        refine Done.step (fun _ => XS.astore X54.here hx rfl (hb hby at_142) rfl rfl (l' := #[oJ a, .second, oJ b, .second, oI c1, oI c2, oI mode, oI lens, oJ ver1, .second, oI vmo, oJ ver2, .second, oI (1 : Int32), oI le2, oI dd, oR x1, .unset, .unset, .unset, .unset, .unset]) rfl) ?_
        show Done _ p e below s _ _ (T54.setTop (mkF m 144 #[oJ a, .second, oJ b, .second, oI c1, oI c2, oI mode, oI lens, oJ ver1, .second, oI vmo, oJ ver2, .second, oI (1 : Int32), oI le2, oI dd, oR x1, .unset, .unset, .unset, .unset, .unset] []))
        rcases hl2 with hv | hv | hv | hv
        · rw [hv]
          show Done _ p e below s _ _ (T54.setTop (mkF m 144 #[oJ a, .second, oJ b, .second, oI c1, oI c2, oI mode, oI lens, oJ ver1, .second, oI vmo, oJ ver2, .second, oI (1 : Int32), oI (0 : Int32), oI dd, oR x1, .unset, .unset, .unset, .unset, .unset] []))
          refine Done.step (fun _ => XS.iload X54.here hx rfl (hb hby at_144) rfl) ?_
          show Done _ p e below s _ _ (T54.setTop (mkF m 146 #[oJ a, .second, oJ b, .second, oI c1, oI c2, oI mode, oI lens, oJ ver1, .second, oI vmo, oJ ver2, .second, oI (1 : Int32), oI (0 : Int32), oI dd, oR x1, .unset, .unset, .unset, .unset, .unset] [(.int (0 : Int32))]))
          refine Done.step (fun _ => XS.iload X54.here hx rfl (hb hby at_146) rfl) ?_
          show Done _ p e below s _ _ (T54.setTop (mkF m 148 #[oJ a, .second, oJ b, .second, oI c1, oI c2, oI mode, oI lens, oJ ver1, .second, oI vmo, oJ ver2, .second, oI (1 : Int32), oI (0 : Int32), oI dd, oR x1, .unset, .unset, .unset, .unset, .unset] [(.int dd), (.int (0 : Int32))]))
          have f55 := (O0.keep K54q all0)
          refine Done.callSW X54 hx hZ hown hS hk (wAt hw 5 rfl) (wAt hw 6 rfl) (wAt hw 7 rfl) (wAt hw 8 rfl) (by decide) (rmM0 l Z a0 hw [] dd z T54.heap n0 Zs54 f55 SC hz hh hcw) (fun vm' hW => own_ibV hV hW) rfl (g := (mkF m 148 #[oJ a, .second, oJ b, .second, oI c1, oI c2, oI mode, oI lens, oJ ver1, .second, oI vmo, oJ ver2, .second, oI (1 : Int32), oI (0 : Int32), oI dd, oR x1, .unset, .unset, .unset, .unset, .unset] [(.int dd), (.int (0 : Int32))])) rfl (by rw [hml]; rfl) [(.int (0 : Int32)), (.int dd)] [] 0 (lenOf pd_13 rfl) rfl rfl (by show 2 * 0 + _ ≤ _; exact Nat.le_of_eq rfl) (hb hby at_148) (by decide) (by decide) (by decide) (by decide) ?_
          intro T56 v56 L56 X56 hS hZ hown hW56 q56
          have hk := Nat.le_refl T56.heap.size
          obtain ⟨x2, rfl, Nq56, K56q, aa, bb, kk, LT, FA1, FA2, FB, Em2, Vm2, Cm2⟩ := q56
          have N56 := Fr.app N54 Nq56
          have Zs56 := Nat.le_trans Zs54 K56q.1
          show Done _ p e below s _ _ (T56.setTop (mkF m 151 #[oJ a, .second, oJ b, .second, oI c1, oI c2, oI mode, oI lens, oJ ver1, .second, oI vmo, oJ ver2, .second, oI (1 : Int32), oI (0 : Int32), oI dd, oR x1, .unset, .unset, .unset, .unset, .unset] [(.ref x2)]))
          refine Done.step (fun _ => XS.astore X56.here hx rfl (hb hby at_151) rfl rfl (l' := #[oJ a, .second, oJ b, .second, oI c1, oI c2, oI mode, oI lens, oJ ver1, .second, oI vmo, oJ ver2, .second, oI (1 : Int32), oI (0 : Int32), oI dd, oR x1, oR x2, .unset, .unset, .unset, .unset]) rfl) ?_
          show Done _ p e below s _ _ (T56.setTop (mkF m 153 #[oJ a, .second, oJ b, .second, oI c1, oI c2, oI mode, oI lens, oJ ver1, .second, oI vmo, oJ ver2, .second, oI (1 : Int32), oI (0 : Int32), oI dd, oR x1, oR x2, .unset, .unset, .unset, .unset] []))
          refine Done.step (fun _ => XS.iload X56.here hx rfl (hb hby at_153) rfl) ?_
          show Done _ p e below s _ _ (T56.setTop (mkF m 155 #[oJ a, .second, oJ b, .second, oI c1, oI c2, oI mode, oI lens, oJ ver1, .second, oI vmo, oJ ver2, .second, oI (1 : Int32), oI (0 : Int32), oI dd, oR x1, oR x2, .unset, .unset, .unset, .unset] [(.int (1 : Int32))]))
          refine Done.step (fun _ => XS.iload X56.here hx rfl (hb hby at_155) rfl) ?_
          show Done _ p e below s _ _ (T56.setTop (mkF m 157 #[oJ a, .second, oJ b, .second, oI c1, oI c2, oI mode, oI lens, oJ ver1, .second, oI vmo, oJ ver2, .second, oI (1 : Int32), oI (0 : Int32), oI dd, oR x1, oR x2, .unset, .unset, .unset, .unset] [(.int (0 : Int32)), (.int (1 : Int32))]))
          refine Done.step (fun _ => XS.icmpYes X56.here hx rfl (pc0 := 157) (pc' := 227) rfl (hb hby at_157) rfl (XT.ii_ne_t (by decide)) (by decide) (by decide)) ?_
          show Done _ p e below s _ _ (T56.setTop (mkF m 227 #[oJ a, .second, oJ b, .second, oI c1, oI c2, oI mode, oI lens, oJ ver1, .second, oI vmo, oJ ver2, .second, oI (1 : Int32), oI (0 : Int32), oI dd, oR x1, oR x2, .unset, .unset, .unset, .unset] []))
          refine Done.step (fun _ => XT.iconstV X56.here hx rfl (0 : Int32) (hb hby at_227) (by decide)) ?_
          show Done _ p e below s _ _ (T56.setTop (mkF m 228 #[oJ a, .second, oJ b, .second, oI c1, oI c2, oI mode, oI lens, oJ ver1, .second, oI vmo, oJ ver2, .second, oI (1 : Int32), oI (0 : Int32), oI dd, oR x1, oR x2, .unset, .unset, .unset, .unset] [(.int (0 : Int32))]))
          refine Done.step (fun _ => XS.istore X56.here hx rfl (hb hby at_228) rfl (l' := #[oJ a, .second, oJ b, .second, oI c1, oI c2, oI mode, oI lens, oJ ver1, .second, oI vmo, oJ ver2, .second, oI (1 : Int32), oI (0 : Int32), oI dd, oR x1, oR x2, oI (0 : Int32), .unset, .unset, .unset]) rfl) ?_
          show Done _ p e below s _ _ (T56.setTop (mkF m 230 #[oJ a, .second, oJ b, .second, oI c1, oI c2, oI mode, oI lens, oJ ver1, .second, oI vmo, oJ ver2, .second, oI (1 : Int32), oI (0 : Int32), oI dd, oR x1, oR x2, oI (0 : Int32), .unset, .unset, .unset] []))
          refine Done.step (fun _ => XT.lload X56.here hx rfl (hb hby at_230) rfl) ?_
          show Done _ p e below s _ _ (T56.setTop (mkF m 232 #[oJ a, .second, oJ b, .second, oI c1, oI c2, oI mode, oI lens, oJ ver1, .second, oI vmo, oJ ver2, .second, oI (1 : Int32), oI (0 : Int32), oI dd, oR x1, oR x2, oI (0 : Int32), .unset, .unset, .unset] [(.long ver1)]))
          refine Done.step (fun _ => XT.lload X56.here hx rfl (hb hby at_232) rfl) ?_
          show Done _ p e below s _ _ (T56.setTop (mkF m 234 #[oJ a, .second, oJ b, .second, oI c1, oI c2, oI mode, oI lens, oJ ver1, .second, oI vmo, oJ ver2, .second, oI (1 : Int32), oI (0 : Int32), oI dd, oR x1, oR x2, oI (0 : Int32), .unset, .unset, .unset] [(.long ver2), (.long ver1)]))
          refine Done.step (fun _ => XT.lcmp X56.here hx rfl (hb hby at_234) rfl) ?_
          show Done _ p e below s _ _ (T56.setTop (mkF m 235 #[oJ a, .second, oJ b, .second, oI c1, oI c2, oI mode, oI lens, oJ ver1, .second, oI vmo, oJ ver2, .second, oI (1 : Int32), oI (0 : Int32), oI dd, oR x1, oR x2, oI (0 : Int32), .unset, .unset, .unset] [(.int (XT.cmpL ver1 ver2))]))
          by_cases hc57 : ver1 = ver2
          · refine Done.step (fun _ => XS.ifNo X56.here hx rfl (hb hby at_235) rfl (XT.ll_ne_f hc57)) ?_
            show Done _ p e below s _ _ (T56.setTop (mkF m 238 #[oJ a, .second, oJ b, .second, oI c1, oI c2, oI mode, oI lens, oJ ver1, .second, oI vmo, oJ ver2, .second, oI (1 : Int32), oI (0 : Int32), oI dd, oR x1, oR x2, oI (0 : Int32), .unset, .unset, .unset] []))
            refine Done.step (fun _ => XS.iload X56.here hx rfl (hb hby at_238) rfl) ?_
            show Done _ p e below s _ _ (T56.setTop (mkF m 240 #[oJ a, .second, oJ b, .second, oI c1, oI c2, oI mode, oI lens, oJ ver1, .second, oI vmo, oJ ver2, .second, oI (1 : Int32), oI (0 : Int32), oI dd, oR x1, oR x2, oI (0 : Int32), .unset, .unset, .unset] [(.int (0 : Int32))]))
            refine Done.step (fun _ => XS.ifYes X56.here hx rfl (pc0 := 240) (pc' := 247) rfl (hb hby at_240) rfl (XT.i0_eq_t rfl) (by decide) (by decide)) ?_
            show Done _ p e below s _ _ (T56.setTop (mkF m 247 #[oJ a, .second, oJ b, .second, oI c1, oI c2, oI mode, oI lens, oJ ver1, .second, oI vmo, oJ ver2, .second, oI (1 : Int32), oI (0 : Int32), oI dd, oR x1, oR x2, oI (0 : Int32), .unset, .unset, .unset] []))
            refine Done.step (fun _ => XT.iconstV X56.here hx rfl (0 : Int32) (hb hby at_247) (by decide)) ?_
            show Done _ p e below s _ _ (T56.setTop (mkF m 248 #[oJ a, .second, oJ b, .second, oI c1, oI c2, oI mode, oI lens, oJ ver1, .second, oI vmo, oJ ver2, .second, oI (1 : Int32), oI (0 : Int32), oI dd, oR x1, oR x2, oI (0 : Int32), .unset, .unset, .unset] [(.int (0 : Int32))]))
            refine Done.step (fun _ => XS.istore X56.here hx rfl (hb hby at_248) rfl (l' := #[oJ a, .second, oJ b, .second, oI c1, oI c2, oI mode, oI lens, oJ ver1, .second, oI vmo, oJ ver2, .second, oI (1 : Int32), oI (0 : Int32), oI dd, oR x1, oR x2, oI (0 : Int32), oI (0 : Int32), .unset, .unset]) rfl) ?_
            show Done _ p e below s _ _ (T56.setTop (mkF m 250 #[oJ a, .second, oJ b, .second, oI c1, oI c2, oI mode, oI lens, oJ ver1, .second, oI vmo, oJ ver2, .second, oI (1 : Int32), oI (0 : Int32), oI dd, oR x1, oR x2, oI (0 : Int32), oI (0 : Int32), .unset, .unset] []))
            have f58 := (f55.keep K56q all0)
            have f59 := (Em1.keep K56q)
            have f60 := (Vm1.keep K56q nin0)
            have f61 := (Cm1.keep K56q nin0)
            have f62 := (Km1.keep K56q nin0)
            exact tl250 Z a0 hw a b ver1 ver2 c1 c2 mode lens vmo (1 : Int32) (0 : Int32) dd (0 : Int32) (0 : Int32) x1 t1 kb1 ([own_ch c1 (0 : Int32)] : List Int32) x2 bb kk ([] : List Int32) z fm T56.heap n0 Zs56 f58 SC hz SF rF f59 f60 f61 f62 Em2 Vm2 Cm2 FB (fun c hc => (List.mem_cons.mp hc).elim (fun e => e ▸ own_chb c1 (0 : Int32)) ((fun c hc => absurd hc List.not_mem_nil) c)) (Nat.le_of_ble_eq_true rfl) (fun c hc => absurd hc List.not_mem_nil) (Nat.le_of_ble_eq_true rfl) hv1 hv2 (bP_f (fun q => by have e := congrArg List.length q.2; simp at e)).symm hx hby hml hown hret hlk hZ hS hk rfl (X56.mono (by decide) (by decide)) N56
          · refine Done.step (fun _ => XS.ifYes X56.here hx rfl (pc0 := 235) (pc' := 247) rfl (hb hby at_235) rfl (XT.ll_ne_t hc57) (by decide) (by decide)) ?_
            show Done _ p e below s _ _ (T56.setTop (mkF m 247 #[oJ a, .second, oJ b, .second, oI c1, oI c2, oI mode, oI lens, oJ ver1, .second, oI vmo, oJ ver2, .second, oI (1 : Int32), oI (0 : Int32), oI dd, oR x1, oR x2, oI (0 : Int32), .unset, .unset, .unset] []))
            refine Done.step (fun _ => XT.iconstV X56.here hx rfl (0 : Int32) (hb hby at_247) (by decide)) ?_
            show Done _ p e below s _ _ (T56.setTop (mkF m 248 #[oJ a, .second, oJ b, .second, oI c1, oI c2, oI mode, oI lens, oJ ver1, .second, oI vmo, oJ ver2, .second, oI (1 : Int32), oI (0 : Int32), oI dd, oR x1, oR x2, oI (0 : Int32), .unset, .unset, .unset] [(.int (0 : Int32))]))
            refine Done.step (fun _ => XS.istore X56.here hx rfl (hb hby at_248) rfl (l' := #[oJ a, .second, oJ b, .second, oI c1, oI c2, oI mode, oI lens, oJ ver1, .second, oI vmo, oJ ver2, .second, oI (1 : Int32), oI (0 : Int32), oI dd, oR x1, oR x2, oI (0 : Int32), oI (0 : Int32), .unset, .unset]) rfl) ?_
            show Done _ p e below s _ _ (T56.setTop (mkF m 250 #[oJ a, .second, oJ b, .second, oI c1, oI c2, oI mode, oI lens, oJ ver1, .second, oI vmo, oJ ver2, .second, oI (1 : Int32), oI (0 : Int32), oI dd, oR x1, oR x2, oI (0 : Int32), oI (0 : Int32), .unset, .unset] []))
            have f63 := (f55.keep K56q all0)
            have f64 := (Em1.keep K56q)
            have f65 := (Vm1.keep K56q nin0)
            have f66 := (Cm1.keep K56q nin0)
            have f67 := (Km1.keep K56q nin0)
            exact tl250 Z a0 hw a b ver1 ver2 c1 c2 mode lens vmo (1 : Int32) (0 : Int32) dd (0 : Int32) (0 : Int32) x1 t1 kb1 ([own_ch c1 (0 : Int32)] : List Int32) x2 bb kk ([] : List Int32) z fm T56.heap n0 Zs56 f63 SC hz SF rF f64 f65 f66 f67 Em2 Vm2 Cm2 FB (fun c hc => (List.mem_cons.mp hc).elim (fun e => e ▸ own_chb c1 (0 : Int32)) ((fun c hc => absurd hc List.not_mem_nil) c)) (Nat.le_of_ble_eq_true rfl) (fun c hc => absurd hc List.not_mem_nil) (Nat.le_of_ble_eq_true rfl) hv1 hv2 (bP_f (fun q => hc57 q.1.symm)).symm hx hby hml hown hret hlk hZ hS hk rfl (X56.mono (by decide) (by decide)) N56
        · rw [hv]
          show Done _ p e below s _ _ (T54.setTop (mkF m 144 #[oJ a, .second, oJ b, .second, oI c1, oI c2, oI mode, oI lens, oJ ver1, .second, oI vmo, oJ ver2, .second, oI (1 : Int32), oI (1 : Int32), oI dd, oR x1, .unset, .unset, .unset, .unset, .unset] []))
          refine Done.step (fun _ => XS.iload X54.here hx rfl (hb hby at_144) rfl) ?_
          show Done _ p e below s _ _ (T54.setTop (mkF m 146 #[oJ a, .second, oJ b, .second, oI c1, oI c2, oI mode, oI lens, oJ ver1, .second, oI vmo, oJ ver2, .second, oI (1 : Int32), oI (1 : Int32), oI dd, oR x1, .unset, .unset, .unset, .unset, .unset] [(.int (1 : Int32))]))
          refine Done.step (fun _ => XS.iload X54.here hx rfl (hb hby at_146) rfl) ?_
          show Done _ p e below s _ _ (T54.setTop (mkF m 148 #[oJ a, .second, oJ b, .second, oI c1, oI c2, oI mode, oI lens, oJ ver1, .second, oI vmo, oJ ver2, .second, oI (1 : Int32), oI (1 : Int32), oI dd, oR x1, .unset, .unset, .unset, .unset, .unset] [(.int dd), (.int (1 : Int32))]))
          have f68 := (O0.keep K54q all0)
          refine Done.callS X54 hx hZ hown (wAt hw 5 rfl) (wAt hw 6 rfl) (wAt hw 7 rfl) (wAt hw 8 rfl) (by decide) (rmM1 l Z a0 hw [] dd z T54.heap n0 Zs54 f68 SC hz) (fun _ _ => trivial) rfl (g := (mkF m 148 #[oJ a, .second, oJ b, .second, oI c1, oI c2, oI mode, oI lens, oJ ver1, .second, oI vmo, oJ ver2, .second, oI (1 : Int32), oI (1 : Int32), oI dd, oR x1, .unset, .unset, .unset, .unset, .unset] [(.int dd), (.int (1 : Int32))])) rfl (by rw [hml]; rfl) [(.int (1 : Int32)), (.int dd)] [] 0 (lenOf pd_13 rfl) rfl rfl (by show 2 * 0 + _ ≤ _; exact Nat.le_of_eq rfl) (hb hby at_148) (by decide) (by decide) (by decide) (by decide) ?_
          intro T69 v69 L69 X69 q69
          obtain ⟨x2, t2, kb2, rfl, Nq69, K69q, Em2, Vm2, Cm2, Km2⟩ := q69
          have N69 := Fr.app N54 Nq69
          have Zs69 := Nat.le_trans Zs54 K69q.1
          have hk := Nat.le_trans hk K69q.1
          show Done _ p e below s _ _ (T69.setTop (mkF m 151 #[oJ a, .second, oJ b, .second, oI c1, oI c2, oI mode, oI lens, oJ ver1, .second, oI vmo, oJ ver2, .second, oI (1 : Int32), oI (1 : Int32), oI dd, oR x1, .unset, .unset, .unset, .unset, .unset] [(.ref x2)]))
          refine Done.step (fun _ => XS.astore X69.here hx rfl (hb hby at_151) rfl rfl (l' := #[oJ a, .second, oJ b, .second, oI c1, oI c2, oI mode, oI lens, oJ ver1, .second, oI vmo, oJ ver2, .second, oI (1 : Int32), oI (1 : Int32), oI dd, oR x1, oR x2, .unset, .unset, .unset, .unset]) rfl) ?_
          show Done _ p e below s _ _ (T69.setTop (mkF m 153 #[oJ a, .second, oJ b, .second, oI c1, oI c2, oI mode, oI lens, oJ ver1, .second, oI vmo, oJ ver2, .second, oI (1 : Int32), oI (1 : Int32), oI dd, oR x1, oR x2, .unset, .unset, .unset, .unset] []))
          refine Done.step (fun _ => XS.iload X69.here hx rfl (hb hby at_153) rfl) ?_
          show Done _ p e below s _ _ (T69.setTop (mkF m 155 #[oJ a, .second, oJ b, .second, oI c1, oI c2, oI mode, oI lens, oJ ver1, .second, oI vmo, oJ ver2, .second, oI (1 : Int32), oI (1 : Int32), oI dd, oR x1, oR x2, .unset, .unset, .unset, .unset] [(.int (1 : Int32))]))
          refine Done.step (fun _ => XS.iload X69.here hx rfl (hb hby at_155) rfl) ?_
          show Done _ p e below s _ _ (T69.setTop (mkF m 157 #[oJ a, .second, oJ b, .second, oI c1, oI c2, oI mode, oI lens, oJ ver1, .second, oI vmo, oJ ver2, .second, oI (1 : Int32), oI (1 : Int32), oI dd, oR x1, oR x2, .unset, .unset, .unset, .unset] [(.int (1 : Int32)), (.int (1 : Int32))]))
          refine Done.step (fun _ => XS.icmpNo X69.here hx rfl (hb hby at_157) rfl (XT.ii_ne_f rfl)) ?_
          show Done _ p e below s _ _ (T69.setTop (mkF m 160 #[oJ a, .second, oJ b, .second, oI c1, oI c2, oI mode, oI lens, oJ ver1, .second, oI vmo, oJ ver2, .second, oI (1 : Int32), oI (1 : Int32), oI dd, oR x1, oR x2, .unset, .unset, .unset, .unset] []))
          refine Done.step (fun _ => XS.iload X69.here hx rfl (hb hby at_160) rfl) ?_
          show Done _ p e below s _ _ (T69.setTop (mkF m 162 #[oJ a, .second, oJ b, .second, oI c1, oI c2, oI mode, oI lens, oJ ver1, .second, oI vmo, oJ ver2, .second, oI (1 : Int32), oI (1 : Int32), oI dd, oR x1, oR x2, .unset, .unset, .unset, .unset] [(.int (1 : Int32))]))
          refine Done.step (fun _ => XT.iconstV X69.here hx rfl (1 : Int32) (hb hby at_162) (by decide)) ?_
          show Done _ p e below s _ _ (T69.setTop (mkF m 163 #[oJ a, .second, oJ b, .second, oI c1, oI c2, oI mode, oI lens, oJ ver1, .second, oI vmo, oJ ver2, .second, oI (1 : Int32), oI (1 : Int32), oI dd, oR x1, oR x2, .unset, .unset, .unset, .unset] [(.int (1 : Int32)), (.int (1 : Int32))]))
          refine Done.step (fun _ => XS.icmpNo X69.here hx rfl (hb hby at_163) rfl (XT.ii_lt_f (by decide))) ?_
          show Done _ p e below s _ _ (T69.setTop (mkF m 166 #[oJ a, .second, oJ b, .second, oI c1, oI c2, oI mode, oI lens, oJ ver1, .second, oI vmo, oJ ver2, .second, oI (1 : Int32), oI (1 : Int32), oI dd, oR x1, oR x2, .unset, .unset, .unset, .unset] []))
          refine Done.step (fun _ => XS.iload X69.here hx rfl (hb hby at_166) rfl) ?_
          show Done _ p e below s _ _ (T69.setTop (mkF m 168 #[oJ a, .second, oJ b, .second, oI c1, oI c2, oI mode, oI lens, oJ ver1, .second, oI vmo, oJ ver2, .second, oI (1 : Int32), oI (1 : Int32), oI dd, oR x1, oR x2, .unset, .unset, .unset, .unset] [(.int c1)]))
          refine Done.step (fun _ => XT.iconstV X69.here hx rfl (0 : Int32) (hb hby at_168) (by decide)) ?_
          show Done _ p e below s _ _ (T69.setTop (mkF m 169 #[oJ a, .second, oJ b, .second, oI c1, oI c2, oI mode, oI lens, oJ ver1, .second, oI vmo, oJ ver2, .second, oI (1 : Int32), oI (1 : Int32), oI dd, oR x1, oR x2, .unset, .unset, .unset, .unset] [(.int (0 : Int32)), (.int c1)]))
          refine Done.callSP X69 hx hZ hown (wAt hw 13 rfl) (wAt hw 14 rfl) (wAt hw 7 rfl) (wAt hw 15 rfl) (by decide) (rmCh l Z a0 hw [] c1 (0 : Int32) T69.heap n0 Zs69) rfl (g := (mkF m 169 #[oJ a, .second, oJ b, .second, oI c1, oI c2, oI mode, oI lens, oJ ver1, .second, oI vmo, oJ ver2, .second, oI (1 : Int32), oI (1 : Int32), oI dd, oR x1, oR x2, .unset, .unset, .unset, .unset] [(.int (0 : Int32)), (.int c1)])) rfl (by rw [hml]; rfl) [(.int c1), (.int (0 : Int32))] [] 0 (lenOf pd_10 rfl) rfl rfl (by show 2 * 0 + _ ≤ _; exact Nat.le_of_eq rfl) (hb hby at_169) (by decide) (by decide) (by decide) (by decide) rfl rfl ?_
          intro T70 X70 e70
          show Done _ p e below s _ _ (T70.setTop (mkF m 172 #[oJ a, .second, oJ b, .second, oI c1, oI c2, oI mode, oI lens, oJ ver1, .second, oI vmo, oJ ver2, .second, oI (1 : Int32), oI (1 : Int32), oI dd, oR x1, oR x2, .unset, .unset, .unset, .unset] [(.int (own_ch c1 (0 : Int32)))]))
          refine Done.step (fun _ => XS.iload X70.here hx rfl (hb hby at_172) rfl) ?_
          show Done _ p e below s _ _ (T70.setTop (mkF m 174 #[oJ a, .second, oJ b, .second, oI c1, oI c2, oI mode, oI lens, oJ ver1, .second, oI vmo, oJ ver2, .second, oI (1 : Int32), oI (1 : Int32), oI dd, oR x1, oR x2, .unset, .unset, .unset, .unset] [(.int dd), (.int (own_ch c1 (0 : Int32)))]))
          refine Done.step (fun _ => XT.iconstV X70.here hx rfl (0 : Int32) (hb hby at_174) (by decide)) ?_
          show Done _ p e below s _ _ (T70.setTop (mkF m 175 #[oJ a, .second, oJ b, .second, oI c1, oI c2, oI mode, oI lens, oJ ver1, .second, oI vmo, oJ ver2, .second, oI (1 : Int32), oI (1 : Int32), oI dd, oR x1, oR x2, .unset, .unset, .unset, .unset] [(.int (0 : Int32)), (.int dd), (.int (own_ch c1 (0 : Int32)))]))
          refine Done.callSP X70 hx hZ hown (wAt hw 13 rfl) (wAt hw 14 rfl) (wAt hw 7 rfl) (wAt hw 15 rfl) (by decide) (rmCh l Z a0 hw [] dd (0 : Int32) T69.heap n0 Zs69) e70 (g := (mkF m 175 #[oJ a, .second, oJ b, .second, oI c1, oI c2, oI mode, oI lens, oJ ver1, .second, oI vmo, oJ ver2, .second, oI (1 : Int32), oI (1 : Int32), oI dd, oR x1, oR x2, .unset, .unset, .unset, .unset] [(.int (0 : Int32)), (.int dd), (.int (own_ch c1 (0 : Int32)))])) rfl (by rw [hml]; rfl) [(.int dd), (.int (0 : Int32))] [(.int (own_ch c1 (0 : Int32)))] 1 (lenOf pd_10 rfl) rfl rfl (by show 2 * 0 + _ ≤ _; exact Nat.le_of_eq rfl) (hb hby at_175) (by decide) (by decide) (by decide) (by decide) rfl rfl ?_
          intro T71 X71 e71
          show Done _ p e below s _ _ (T71.setTop (mkF m 178 #[oJ a, .second, oJ b, .second, oI c1, oI c2, oI mode, oI lens, oJ ver1, .second, oI vmo, oJ ver2, .second, oI (1 : Int32), oI (1 : Int32), oI dd, oR x1, oR x2, .unset, .unset, .unset, .unset] [(.int (own_ch dd (0 : Int32))), (.int (own_ch c1 (0 : Int32)))]))
          by_cases hc72 : (own_ch c1 (0 : Int32)) = (own_ch dd (0 : Int32))
          · refine Done.step (fun _ => XS.icmpNo X71.here hx rfl (hb hby at_178) rfl (XT.ii_ne_f hc72)) ?_
            show Done _ p e below s _ _ (T71.setTop (mkF m 181 #[oJ a, .second, oJ b, .second, oI c1, oI c2, oI mode, oI lens, oJ ver1, .second, oI vmo, oJ ver2, .second, oI (1 : Int32), oI (1 : Int32), oI dd, oR x1, oR x2, .unset, .unset, .unset, .unset] []))
            refine Done.step (fun _ => XS.iload X71.here hx rfl (hb hby at_181) rfl) ?_
            show Done _ p e below s _ _ (T71.setTop (mkF m 183 #[oJ a, .second, oJ b, .second, oI c1, oI c2, oI mode, oI lens, oJ ver1, .second, oI vmo, oJ ver2, .second, oI (1 : Int32), oI (1 : Int32), oI dd, oR x1, oR x2, .unset, .unset, .unset, .unset] [(.int (1 : Int32))]))
            refine Done.step (fun _ => XT.iconstV X71.here hx rfl (2 : Int32) (hb hby at_183) (by decide)) ?_
            show Done _ p e below s _ _ (T71.setTop (mkF m 184 #[oJ a, .second, oJ b, .second, oI c1, oI c2, oI mode, oI lens, oJ ver1, .second, oI vmo, oJ ver2, .second, oI (1 : Int32), oI (1 : Int32), oI dd, oR x1, oR x2, .unset, .unset, .unset, .unset] [(.int (2 : Int32)), (.int (1 : Int32))]))
            refine Done.step (fun _ => XS.icmpYes X71.here hx rfl (pc0 := 184) (pc' := 202) rfl (hb hby at_184) rfl (XT.ii_lt_t (by decide)) (by decide) (by decide)) ?_
            show Done _ p e below s _ _ (T71.setTop (mkF m 202 #[oJ a, .second, oJ b, .second, oI c1, oI c2, oI mode, oI lens, oJ ver1, .second, oI vmo, oJ ver2, .second, oI (1 : Int32), oI (1 : Int32), oI dd, oR x1, oR x2, .unset, .unset, .unset, .unset] []))
            refine Done.step (fun _ => XS.iload X71.here hx rfl (hb hby at_202) rfl) ?_
            show Done _ p e below s _ _ (T71.setTop (mkF m 204 #[oJ a, .second, oJ b, .second, oI c1, oI c2, oI mode, oI lens, oJ ver1, .second, oI vmo, oJ ver2, .second, oI (1 : Int32), oI (1 : Int32), oI dd, oR x1, oR x2, .unset, .unset, .unset, .unset] [(.int (1 : Int32))]))
            refine Done.step (fun _ => XT.iconstV X71.here hx rfl (3 : Int32) (hb hby at_204) (by decide)) ?_
            show Done _ p e below s _ _ (T71.setTop (mkF m 205 #[oJ a, .second, oJ b, .second, oI c1, oI c2, oI mode, oI lens, oJ ver1, .second, oI vmo, oJ ver2, .second, oI (1 : Int32), oI (1 : Int32), oI dd, oR x1, oR x2, .unset, .unset, .unset, .unset] [(.int (3 : Int32)), (.int (1 : Int32))]))
            refine Done.step (fun _ => XS.icmpYes X71.here hx rfl (pc0 := 205) (pc' := 223) rfl (hb hby at_205) rfl (XT.ii_lt_t (by decide)) (by decide) (by decide)) ?_
            show Done _ p e below s _ _ (T71.setTop (mkF m 223 #[oJ a, .second, oJ b, .second, oI c1, oI c2, oI mode, oI lens, oJ ver1, .second, oI vmo, oJ ver2, .second, oI (1 : Int32), oI (1 : Int32), oI dd, oR x1, oR x2, .unset, .unset, .unset, .unset] []))
            refine Done.step (fun _ => XT.iconstV X71.here hx rfl (1 : Int32) (hb hby at_223) (by decide)) ?_
            show Done _ p e below s _ _ (T71.setTop (mkF m 224 #[oJ a, .second, oJ b, .second, oI c1, oI c2, oI mode, oI lens, oJ ver1, .second, oI vmo, oJ ver2, .second, oI (1 : Int32), oI (1 : Int32), oI dd, oR x1, oR x2, .unset, .unset, .unset, .unset] [(.int (1 : Int32))]))
            refine Done.step (fun _ => XS.goto X71.here hx rfl (pc0 := 224) (pc' := 228) rfl (hb hby at_224) (by decide) (by decide)) ?_
            show Done _ p e below s _ _ (T71.setTop (mkF m 228 #[oJ a, .second, oJ b, .second, oI c1, oI c2, oI mode, oI lens, oJ ver1, .second, oI vmo, oJ ver2, .second, oI (1 : Int32), oI (1 : Int32), oI dd, oR x1, oR x2, .unset, .unset, .unset, .unset] [(.int (1 : Int32))]))
            refine Done.step (fun _ => XS.istore X71.here hx rfl (hb hby at_228) rfl (l' := #[oJ a, .second, oJ b, .second, oI c1, oI c2, oI mode, oI lens, oJ ver1, .second, oI vmo, oJ ver2, .second, oI (1 : Int32), oI (1 : Int32), oI dd, oR x1, oR x2, oI (1 : Int32), .unset, .unset, .unset]) rfl) ?_
            show Done _ p e below s _ _ (T71.setTop (mkF m 230 #[oJ a, .second, oJ b, .second, oI c1, oI c2, oI mode, oI lens, oJ ver1, .second, oI vmo, oJ ver2, .second, oI (1 : Int32), oI (1 : Int32), oI dd, oR x1, oR x2, oI (1 : Int32), .unset, .unset, .unset] []))
            refine Done.step (fun _ => XT.lload X71.here hx rfl (hb hby at_230) rfl) ?_
            show Done _ p e below s _ _ (T71.setTop (mkF m 232 #[oJ a, .second, oJ b, .second, oI c1, oI c2, oI mode, oI lens, oJ ver1, .second, oI vmo, oJ ver2, .second, oI (1 : Int32), oI (1 : Int32), oI dd, oR x1, oR x2, oI (1 : Int32), .unset, .unset, .unset] [(.long ver1)]))
            refine Done.step (fun _ => XT.lload X71.here hx rfl (hb hby at_232) rfl) ?_
            show Done _ p e below s _ _ (T71.setTop (mkF m 234 #[oJ a, .second, oJ b, .second, oI c1, oI c2, oI mode, oI lens, oJ ver1, .second, oI vmo, oJ ver2, .second, oI (1 : Int32), oI (1 : Int32), oI dd, oR x1, oR x2, oI (1 : Int32), .unset, .unset, .unset] [(.long ver2), (.long ver1)]))
            refine Done.step (fun _ => XT.lcmp X71.here hx rfl (hb hby at_234) rfl) ?_
            show Done _ p e below s _ _ (T71.setTop (mkF m 235 #[oJ a, .second, oJ b, .second, oI c1, oI c2, oI mode, oI lens, oJ ver1, .second, oI vmo, oJ ver2, .second, oI (1 : Int32), oI (1 : Int32), oI dd, oR x1, oR x2, oI (1 : Int32), .unset, .unset, .unset] [(.int (XT.cmpL ver1 ver2))]))
            by_cases hc73 : ver1 = ver2
            · refine Done.step (fun _ => XS.ifNo X71.here hx rfl (hb hby at_235) rfl (XT.ll_ne_f hc73)) ?_
              show Done _ p e below s _ _ (T71.setTop (mkF m 238 #[oJ a, .second, oJ b, .second, oI c1, oI c2, oI mode, oI lens, oJ ver1, .second, oI vmo, oJ ver2, .second, oI (1 : Int32), oI (1 : Int32), oI dd, oR x1, oR x2, oI (1 : Int32), .unset, .unset, .unset] []))
              refine Done.step (fun _ => XS.iload X71.here hx rfl (hb hby at_238) rfl) ?_
              show Done _ p e below s _ _ (T71.setTop (mkF m 240 #[oJ a, .second, oJ b, .second, oI c1, oI c2, oI mode, oI lens, oJ ver1, .second, oI vmo, oJ ver2, .second, oI (1 : Int32), oI (1 : Int32), oI dd, oR x1, oR x2, oI (1 : Int32), .unset, .unset, .unset] [(.int (1 : Int32))]))
              refine Done.step (fun _ => XS.ifNo X71.here hx rfl (hb hby at_240) rfl (XT.i0_eq_f (by decide))) ?_
              show Done _ p e below s _ _ (T71.setTop (mkF m 243 #[oJ a, .second, oJ b, .second, oI c1, oI c2, oI mode, oI lens, oJ ver1, .second, oI vmo, oJ ver2, .second, oI (1 : Int32), oI (1 : Int32), oI dd, oR x1, oR x2, oI (1 : Int32), .unset, .unset, .unset] []))
              refine Done.step (fun _ => XT.iconstV X71.here hx rfl (1 : Int32) (hb hby at_243) (by decide)) ?_
              show Done _ p e below s _ _ (T71.setTop (mkF m 244 #[oJ a, .second, oJ b, .second, oI c1, oI c2, oI mode, oI lens, oJ ver1, .second, oI vmo, oJ ver2, .second, oI (1 : Int32), oI (1 : Int32), oI dd, oR x1, oR x2, oI (1 : Int32), .unset, .unset, .unset] [(.int (1 : Int32))]))
              refine Done.step (fun _ => XS.goto X71.here hx rfl (pc0 := 244) (pc' := 248) rfl (hb hby at_244) (by decide) (by decide)) ?_
              show Done _ p e below s _ _ (T71.setTop (mkF m 248 #[oJ a, .second, oJ b, .second, oI c1, oI c2, oI mode, oI lens, oJ ver1, .second, oI vmo, oJ ver2, .second, oI (1 : Int32), oI (1 : Int32), oI dd, oR x1, oR x2, oI (1 : Int32), .unset, .unset, .unset] [(.int (1 : Int32))]))
              refine Done.step (fun _ => XS.istore X71.here hx rfl (hb hby at_248) rfl (l' := #[oJ a, .second, oJ b, .second, oI c1, oI c2, oI mode, oI lens, oJ ver1, .second, oI vmo, oJ ver2, .second, oI (1 : Int32), oI (1 : Int32), oI dd, oR x1, oR x2, oI (1 : Int32), oI (1 : Int32), .unset, .unset]) rfl) ?_
              show Done _ p e below s _ _ (T71.setTop (mkF m 250 #[oJ a, .second, oJ b, .second, oI c1, oI c2, oI mode, oI lens, oJ ver1, .second, oI vmo, oJ ver2, .second, oI (1 : Int32), oI (1 : Int32), oI dd, oR x1, oR x2, oI (1 : Int32), oI (1 : Int32), .unset, .unset] []))
              have f74 := (f68.keep K69q all0)
              have f75 := (Em1.keep K69q)
              have f76 := (Vm1.keep K69q nin0)
              have f77 := (Cm1.keep K69q nin0)
              have f78 := (Km1.keep K69q nin0)
              exact tl250 Z a0 hw a b ver1 ver2 c1 c2 mode lens vmo (1 : Int32) (1 : Int32) dd (1 : Int32) (1 : Int32) x1 t1 kb1 ([own_ch c1 (0 : Int32)] : List Int32) x2 t2 kb2 ([own_ch dd (0 : Int32)] : List Int32) z fm T69.heap n0 Zs69 f74 SC hz SF rF f75 f76 f77 f78 Em2 Vm2 Cm2 Km2 (fun c hc => (List.mem_cons.mp hc).elim (fun e => e ▸ own_chb c1 (0 : Int32)) ((fun c hc => absurd hc List.not_mem_nil) c)) (Nat.le_of_ble_eq_true rfl) (fun c hc => (List.mem_cons.mp hc).elim (fun e => e ▸ own_chb dd (0 : Int32)) ((fun c hc => absurd hc List.not_mem_nil) c)) (Nat.le_of_ble_eq_true rfl) hv1 hv2 (bP_t ⟨hc73.symm, (own_L1 _ _).mpr hc72⟩).symm hx hby hml hown hret hlk hZ hS hk e71 (X71.mono (by decide) (by decide)) N69
            · refine Done.step (fun _ => XS.ifYes X71.here hx rfl (pc0 := 235) (pc' := 247) rfl (hb hby at_235) rfl (XT.ll_ne_t hc73) (by decide) (by decide)) ?_
              show Done _ p e below s _ _ (T71.setTop (mkF m 247 #[oJ a, .second, oJ b, .second, oI c1, oI c2, oI mode, oI lens, oJ ver1, .second, oI vmo, oJ ver2, .second, oI (1 : Int32), oI (1 : Int32), oI dd, oR x1, oR x2, oI (1 : Int32), .unset, .unset, .unset] []))
              refine Done.step (fun _ => XT.iconstV X71.here hx rfl (0 : Int32) (hb hby at_247) (by decide)) ?_
              show Done _ p e below s _ _ (T71.setTop (mkF m 248 #[oJ a, .second, oJ b, .second, oI c1, oI c2, oI mode, oI lens, oJ ver1, .second, oI vmo, oJ ver2, .second, oI (1 : Int32), oI (1 : Int32), oI dd, oR x1, oR x2, oI (1 : Int32), .unset, .unset, .unset] [(.int (0 : Int32))]))
              refine Done.step (fun _ => XS.istore X71.here hx rfl (hb hby at_248) rfl (l' := #[oJ a, .second, oJ b, .second, oI c1, oI c2, oI mode, oI lens, oJ ver1, .second, oI vmo, oJ ver2, .second, oI (1 : Int32), oI (1 : Int32), oI dd, oR x1, oR x2, oI (1 : Int32), oI (0 : Int32), .unset, .unset]) rfl) ?_
              show Done _ p e below s _ _ (T71.setTop (mkF m 250 #[oJ a, .second, oJ b, .second, oI c1, oI c2, oI mode, oI lens, oJ ver1, .second, oI vmo, oJ ver2, .second, oI (1 : Int32), oI (1 : Int32), oI dd, oR x1, oR x2, oI (1 : Int32), oI (0 : Int32), .unset, .unset] []))
              have f79 := (f68.keep K69q all0)
              have f80 := (Em1.keep K69q)
              have f81 := (Vm1.keep K69q nin0)
              have f82 := (Cm1.keep K69q nin0)
              have f83 := (Km1.keep K69q nin0)
              exact tl250 Z a0 hw a b ver1 ver2 c1 c2 mode lens vmo (1 : Int32) (1 : Int32) dd (1 : Int32) (0 : Int32) x1 t1 kb1 ([own_ch c1 (0 : Int32)] : List Int32) x2 t2 kb2 ([own_ch dd (0 : Int32)] : List Int32) z fm T69.heap n0 Zs69 f79 SC hz SF rF f80 f81 f82 f83 Em2 Vm2 Cm2 Km2 (fun c hc => (List.mem_cons.mp hc).elim (fun e => e ▸ own_chb c1 (0 : Int32)) ((fun c hc => absurd hc List.not_mem_nil) c)) (Nat.le_of_ble_eq_true rfl) (fun c hc => (List.mem_cons.mp hc).elim (fun e => e ▸ own_chb dd (0 : Int32)) ((fun c hc => absurd hc List.not_mem_nil) c)) (Nat.le_of_ble_eq_true rfl) hv1 hv2 (bP_f (fun q => hc73 q.1.symm)).symm hx hby hml hown hret hlk hZ hS hk e71 (X71.mono (by decide) (by decide)) N69
          · refine Done.step (fun _ => XS.icmpYes X71.here hx rfl (pc0 := 178) (pc' := 227) rfl (hb hby at_178) rfl (XT.ii_ne_t hc72) (by decide) (by decide)) ?_
            show Done _ p e below s _ _ (T71.setTop (mkF m 227 #[oJ a, .second, oJ b, .second, oI c1, oI c2, oI mode, oI lens, oJ ver1, .second, oI vmo, oJ ver2, .second, oI (1 : Int32), oI (1 : Int32), oI dd, oR x1, oR x2, .unset, .unset, .unset, .unset] []))
            refine Done.step (fun _ => XT.iconstV X71.here hx rfl (0 : Int32) (hb hby at_227) (by decide)) ?_
            show Done _ p e below s _ _ (T71.setTop (mkF m 228 #[oJ a, .second, oJ b, .second, oI c1, oI c2, oI mode, oI lens, oJ ver1, .second, oI vmo, oJ ver2, .second, oI (1 : Int32), oI (1 : Int32), oI dd, oR x1, oR x2, .unset, .unset, .unset, .unset] [(.int (0 : Int32))]))
            refine Done.step (fun _ => XS.istore X71.here hx rfl (hb hby at_228) rfl (l' := #[oJ a, .second, oJ b, .second, oI c1, oI c2, oI mode, oI lens, oJ ver1, .second, oI vmo, oJ ver2, .second, oI (1 : Int32), oI (1 : Int32), oI dd, oR x1, oR x2, oI (0 : Int32), .unset, .unset, .unset]) rfl) ?_
            show Done _ p e below s _ _ (T71.setTop (mkF m 230 #[oJ a, .second, oJ b, .second, oI c1, oI c2, oI mode, oI lens, oJ ver1, .second, oI vmo, oJ ver2, .second, oI (1 : Int32), oI (1 : Int32), oI dd, oR x1, oR x2, oI (0 : Int32), .unset, .unset, .unset] []))
            refine Done.step (fun _ => XT.lload X71.here hx rfl (hb hby at_230) rfl) ?_
            show Done _ p e below s _ _ (T71.setTop (mkF m 232 #[oJ a, .second, oJ b, .second, oI c1, oI c2, oI mode, oI lens, oJ ver1, .second, oI vmo, oJ ver2, .second, oI (1 : Int32), oI (1 : Int32), oI dd, oR x1, oR x2, oI (0 : Int32), .unset, .unset, .unset] [(.long ver1)]))
            refine Done.step (fun _ => XT.lload X71.here hx rfl (hb hby at_232) rfl) ?_
            show Done _ p e below s _ _ (T71.setTop (mkF m 234 #[oJ a, .second, oJ b, .second, oI c1, oI c2, oI mode, oI lens, oJ ver1, .second, oI vmo, oJ ver2, .second, oI (1 : Int32), oI (1 : Int32), oI dd, oR x1, oR x2, oI (0 : Int32), .unset, .unset, .unset] [(.long ver2), (.long ver1)]))
            refine Done.step (fun _ => XT.lcmp X71.here hx rfl (hb hby at_234) rfl) ?_
            show Done _ p e below s _ _ (T71.setTop (mkF m 235 #[oJ a, .second, oJ b, .second, oI c1, oI c2, oI mode, oI lens, oJ ver1, .second, oI vmo, oJ ver2, .second, oI (1 : Int32), oI (1 : Int32), oI dd, oR x1, oR x2, oI (0 : Int32), .unset, .unset, .unset] [(.int (XT.cmpL ver1 ver2))]))
            by_cases hc84 : ver1 = ver2
            · refine Done.step (fun _ => XS.ifNo X71.here hx rfl (hb hby at_235) rfl (XT.ll_ne_f hc84)) ?_
              show Done _ p e below s _ _ (T71.setTop (mkF m 238 #[oJ a, .second, oJ b, .second, oI c1, oI c2, oI mode, oI lens, oJ ver1, .second, oI vmo, oJ ver2, .second, oI (1 : Int32), oI (1 : Int32), oI dd, oR x1, oR x2, oI (0 : Int32), .unset, .unset, .unset] []))
              refine Done.step (fun _ => XS.iload X71.here hx rfl (hb hby at_238) rfl) ?_
              show Done _ p e below s _ _ (T71.setTop (mkF m 240 #[oJ a, .second, oJ b, .second, oI c1, oI c2, oI mode, oI lens, oJ ver1, .second, oI vmo, oJ ver2, .second, oI (1 : Int32), oI (1 : Int32), oI dd, oR x1, oR x2, oI (0 : Int32), .unset, .unset, .unset] [(.int (0 : Int32))]))
              refine Done.step (fun _ => XS.ifYes X71.here hx rfl (pc0 := 240) (pc' := 247) rfl (hb hby at_240) rfl (XT.i0_eq_t rfl) (by decide) (by decide)) ?_
              show Done _ p e below s _ _ (T71.setTop (mkF m 247 #[oJ a, .second, oJ b, .second, oI c1, oI c2, oI mode, oI lens, oJ ver1, .second, oI vmo, oJ ver2, .second, oI (1 : Int32), oI (1 : Int32), oI dd, oR x1, oR x2, oI (0 : Int32), .unset, .unset, .unset] []))
              refine Done.step (fun _ => XT.iconstV X71.here hx rfl (0 : Int32) (hb hby at_247) (by decide)) ?_
              show Done _ p e below s _ _ (T71.setTop (mkF m 248 #[oJ a, .second, oJ b, .second, oI c1, oI c2, oI mode, oI lens, oJ ver1, .second, oI vmo, oJ ver2, .second, oI (1 : Int32), oI (1 : Int32), oI dd, oR x1, oR x2, oI (0 : Int32), .unset, .unset, .unset] [(.int (0 : Int32))]))
              refine Done.step (fun _ => XS.istore X71.here hx rfl (hb hby at_248) rfl (l' := #[oJ a, .second, oJ b, .second, oI c1, oI c2, oI mode, oI lens, oJ ver1, .second, oI vmo, oJ ver2, .second, oI (1 : Int32), oI (1 : Int32), oI dd, oR x1, oR x2, oI (0 : Int32), oI (0 : Int32), .unset, .unset]) rfl) ?_
              show Done _ p e below s _ _ (T71.setTop (mkF m 250 #[oJ a, .second, oJ b, .second, oI c1, oI c2, oI mode, oI lens, oJ ver1, .second, oI vmo, oJ ver2, .second, oI (1 : Int32), oI (1 : Int32), oI dd, oR x1, oR x2, oI (0 : Int32), oI (0 : Int32), .unset, .unset] []))
              have f85 := (f68.keep K69q all0)
              have f86 := (Em1.keep K69q)
              have f87 := (Vm1.keep K69q nin0)
              have f88 := (Cm1.keep K69q nin0)
              have f89 := (Km1.keep K69q nin0)
              exact tl250 Z a0 hw a b ver1 ver2 c1 c2 mode lens vmo (1 : Int32) (1 : Int32) dd (0 : Int32) (0 : Int32) x1 t1 kb1 ([own_ch c1 (0 : Int32)] : List Int32) x2 t2 kb2 ([own_ch dd (0 : Int32)] : List Int32) z fm T69.heap n0 Zs69 f85 SC hz SF rF f86 f87 f88 f89 Em2 Vm2 Cm2 Km2 (fun c hc => (List.mem_cons.mp hc).elim (fun e => e ▸ own_chb c1 (0 : Int32)) ((fun c hc => absurd hc List.not_mem_nil) c)) (Nat.le_of_ble_eq_true rfl) (fun c hc => (List.mem_cons.mp hc).elim (fun e => e ▸ own_chb dd (0 : Int32)) ((fun c hc => absurd hc List.not_mem_nil) c)) (Nat.le_of_ble_eq_true rfl) hv1 hv2 (bP_f (fun q => hc72 ((own_L1 _ _).mp q.2))).symm hx hby hml hown hret hlk hZ hS hk e71 (X71.mono (by decide) (by decide)) N69
            · refine Done.step (fun _ => XS.ifYes X71.here hx rfl (pc0 := 235) (pc' := 247) rfl (hb hby at_235) rfl (XT.ll_ne_t hc84) (by decide) (by decide)) ?_
              show Done _ p e below s _ _ (T71.setTop (mkF m 247 #[oJ a, .second, oJ b, .second, oI c1, oI c2, oI mode, oI lens, oJ ver1, .second, oI vmo, oJ ver2, .second, oI (1 : Int32), oI (1 : Int32), oI dd, oR x1, oR x2, oI (0 : Int32), .unset, .unset, .unset] []))
              refine Done.step (fun _ => XT.iconstV X71.here hx rfl (0 : Int32) (hb hby at_247) (by decide)) ?_
              show Done _ p e below s _ _ (T71.setTop (mkF m 248 #[oJ a, .second, oJ b, .second, oI c1, oI c2, oI mode, oI lens, oJ ver1, .second, oI vmo, oJ ver2, .second, oI (1 : Int32), oI (1 : Int32), oI dd, oR x1, oR x2, oI (0 : Int32), .unset, .unset, .unset] [(.int (0 : Int32))]))
              refine Done.step (fun _ => XS.istore X71.here hx rfl (hb hby at_248) rfl (l' := #[oJ a, .second, oJ b, .second, oI c1, oI c2, oI mode, oI lens, oJ ver1, .second, oI vmo, oJ ver2, .second, oI (1 : Int32), oI (1 : Int32), oI dd, oR x1, oR x2, oI (0 : Int32), oI (0 : Int32), .unset, .unset]) rfl) ?_
              show Done _ p e below s _ _ (T71.setTop (mkF m 250 #[oJ a, .second, oJ b, .second, oI c1, oI c2, oI mode, oI lens, oJ ver1, .second, oI vmo, oJ ver2, .second, oI (1 : Int32), oI (1 : Int32), oI dd, oR x1, oR x2, oI (0 : Int32), oI (0 : Int32), .unset, .unset] []))
              have f90 := (f68.keep K69q all0)
              have f91 := (Em1.keep K69q)
              have f92 := (Vm1.keep K69q nin0)
              have f93 := (Cm1.keep K69q nin0)
              have f94 := (Km1.keep K69q nin0)
              exact tl250 Z a0 hw a b ver1 ver2 c1 c2 mode lens vmo (1 : Int32) (1 : Int32) dd (0 : Int32) (0 : Int32) x1 t1 kb1 ([own_ch c1 (0 : Int32)] : List Int32) x2 t2 kb2 ([own_ch dd (0 : Int32)] : List Int32) z fm T69.heap n0 Zs69 f90 SC hz SF rF f91 f92 f93 f94 Em2 Vm2 Cm2 Km2 (fun c hc => (List.mem_cons.mp hc).elim (fun e => e ▸ own_chb c1 (0 : Int32)) ((fun c hc => absurd hc List.not_mem_nil) c)) (Nat.le_of_ble_eq_true rfl) (fun c hc => (List.mem_cons.mp hc).elim (fun e => e ▸ own_chb dd (0 : Int32)) ((fun c hc => absurd hc List.not_mem_nil) c)) (Nat.le_of_ble_eq_true rfl) hv1 hv2 (bP_f (fun q => hc84 q.1.symm)).symm hx hby hml hown hret hlk hZ hS hk e71 (X71.mono (by decide) (by decide)) N69
        · rw [hv]
          show Done _ p e below s _ _ (T54.setTop (mkF m 144 #[oJ a, .second, oJ b, .second, oI c1, oI c2, oI mode, oI lens, oJ ver1, .second, oI vmo, oJ ver2, .second, oI (1 : Int32), oI (2 : Int32), oI dd, oR x1, .unset, .unset, .unset, .unset, .unset] []))
          refine Done.step (fun _ => XS.iload X54.here hx rfl (hb hby at_144) rfl) ?_
          show Done _ p e below s _ _ (T54.setTop (mkF m 146 #[oJ a, .second, oJ b, .second, oI c1, oI c2, oI mode, oI lens, oJ ver1, .second, oI vmo, oJ ver2, .second, oI (1 : Int32), oI (2 : Int32), oI dd, oR x1, .unset, .unset, .unset, .unset, .unset] [(.int (2 : Int32))]))
          refine Done.step (fun _ => XS.iload X54.here hx rfl (hb hby at_146) rfl) ?_
          show Done _ p e below s _ _ (T54.setTop (mkF m 148 #[oJ a, .second, oJ b, .second, oI c1, oI c2, oI mode, oI lens, oJ ver1, .second, oI vmo, oJ ver2, .second, oI (1 : Int32), oI (2 : Int32), oI dd, oR x1, .unset, .unset, .unset, .unset, .unset] [(.int dd), (.int (2 : Int32))]))
          have f95 := (O0.keep K54q all0)
          refine Done.callS X54 hx hZ hown (wAt hw 5 rfl) (wAt hw 6 rfl) (wAt hw 7 rfl) (wAt hw 8 rfl) (by decide) (rmM2 l Z a0 hw [] dd z T54.heap n0 Zs54 f95 SC hz) (fun _ _ => trivial) rfl (g := (mkF m 148 #[oJ a, .second, oJ b, .second, oI c1, oI c2, oI mode, oI lens, oJ ver1, .second, oI vmo, oJ ver2, .second, oI (1 : Int32), oI (2 : Int32), oI dd, oR x1, .unset, .unset, .unset, .unset, .unset] [(.int dd), (.int (2 : Int32))])) rfl (by rw [hml]; rfl) [(.int (2 : Int32)), (.int dd)] [] 0 (lenOf pd_13 rfl) rfl rfl (by show 2 * 0 + _ ≤ _; exact Nat.le_of_eq rfl) (hb hby at_148) (by decide) (by decide) (by decide) (by decide) ?_
          intro T96 v96 L96 X96 q96
          obtain ⟨x2, t2, kb2, rfl, Nq96, K96q, Em2, Vm2, Cm2, Km2⟩ := q96
          have N96 := Fr.app N54 Nq96
          have Zs96 := Nat.le_trans Zs54 K96q.1
          have hk := Nat.le_trans hk K96q.1
          show Done _ p e below s _ _ (T96.setTop (mkF m 151 #[oJ a, .second, oJ b, .second, oI c1, oI c2, oI mode, oI lens, oJ ver1, .second, oI vmo, oJ ver2, .second, oI (1 : Int32), oI (2 : Int32), oI dd, oR x1, .unset, .unset, .unset, .unset, .unset] [(.ref x2)]))
          refine Done.step (fun _ => XS.astore X96.here hx rfl (hb hby at_151) rfl rfl (l' := #[oJ a, .second, oJ b, .second, oI c1, oI c2, oI mode, oI lens, oJ ver1, .second, oI vmo, oJ ver2, .second, oI (1 : Int32), oI (2 : Int32), oI dd, oR x1, oR x2, .unset, .unset, .unset, .unset]) rfl) ?_
          show Done _ p e below s _ _ (T96.setTop (mkF m 153 #[oJ a, .second, oJ b, .second, oI c1, oI c2, oI mode, oI lens, oJ ver1, .second, oI vmo, oJ ver2, .second, oI (1 : Int32), oI (2 : Int32), oI dd, oR x1, oR x2, .unset, .unset, .unset, .unset] []))
          refine Done.step (fun _ => XS.iload X96.here hx rfl (hb hby at_153) rfl) ?_
          show Done _ p e below s _ _ (T96.setTop (mkF m 155 #[oJ a, .second, oJ b, .second, oI c1, oI c2, oI mode, oI lens, oJ ver1, .second, oI vmo, oJ ver2, .second, oI (1 : Int32), oI (2 : Int32), oI dd, oR x1, oR x2, .unset, .unset, .unset, .unset] [(.int (1 : Int32))]))
          refine Done.step (fun _ => XS.iload X96.here hx rfl (hb hby at_155) rfl) ?_
          show Done _ p e below s _ _ (T96.setTop (mkF m 157 #[oJ a, .second, oJ b, .second, oI c1, oI c2, oI mode, oI lens, oJ ver1, .second, oI vmo, oJ ver2, .second, oI (1 : Int32), oI (2 : Int32), oI dd, oR x1, oR x2, .unset, .unset, .unset, .unset] [(.int (2 : Int32)), (.int (1 : Int32))]))
          refine Done.step (fun _ => XS.icmpYes X96.here hx rfl (pc0 := 157) (pc' := 227) rfl (hb hby at_157) rfl (XT.ii_ne_t (by decide)) (by decide) (by decide)) ?_
          show Done _ p e below s _ _ (T96.setTop (mkF m 227 #[oJ a, .second, oJ b, .second, oI c1, oI c2, oI mode, oI lens, oJ ver1, .second, oI vmo, oJ ver2, .second, oI (1 : Int32), oI (2 : Int32), oI dd, oR x1, oR x2, .unset, .unset, .unset, .unset] []))
          refine Done.step (fun _ => XT.iconstV X96.here hx rfl (0 : Int32) (hb hby at_227) (by decide)) ?_
          show Done _ p e below s _ _ (T96.setTop (mkF m 228 #[oJ a, .second, oJ b, .second, oI c1, oI c2, oI mode, oI lens, oJ ver1, .second, oI vmo, oJ ver2, .second, oI (1 : Int32), oI (2 : Int32), oI dd, oR x1, oR x2, .unset, .unset, .unset, .unset] [(.int (0 : Int32))]))
          refine Done.step (fun _ => XS.istore X96.here hx rfl (hb hby at_228) rfl (l' := #[oJ a, .second, oJ b, .second, oI c1, oI c2, oI mode, oI lens, oJ ver1, .second, oI vmo, oJ ver2, .second, oI (1 : Int32), oI (2 : Int32), oI dd, oR x1, oR x2, oI (0 : Int32), .unset, .unset, .unset]) rfl) ?_
          show Done _ p e below s _ _ (T96.setTop (mkF m 230 #[oJ a, .second, oJ b, .second, oI c1, oI c2, oI mode, oI lens, oJ ver1, .second, oI vmo, oJ ver2, .second, oI (1 : Int32), oI (2 : Int32), oI dd, oR x1, oR x2, oI (0 : Int32), .unset, .unset, .unset] []))
          refine Done.step (fun _ => XT.lload X96.here hx rfl (hb hby at_230) rfl) ?_
          show Done _ p e below s _ _ (T96.setTop (mkF m 232 #[oJ a, .second, oJ b, .second, oI c1, oI c2, oI mode, oI lens, oJ ver1, .second, oI vmo, oJ ver2, .second, oI (1 : Int32), oI (2 : Int32), oI dd, oR x1, oR x2, oI (0 : Int32), .unset, .unset, .unset] [(.long ver1)]))
          refine Done.step (fun _ => XT.lload X96.here hx rfl (hb hby at_232) rfl) ?_
          show Done _ p e below s _ _ (T96.setTop (mkF m 234 #[oJ a, .second, oJ b, .second, oI c1, oI c2, oI mode, oI lens, oJ ver1, .second, oI vmo, oJ ver2, .second, oI (1 : Int32), oI (2 : Int32), oI dd, oR x1, oR x2, oI (0 : Int32), .unset, .unset, .unset] [(.long ver2), (.long ver1)]))
          refine Done.step (fun _ => XT.lcmp X96.here hx rfl (hb hby at_234) rfl) ?_
          show Done _ p e below s _ _ (T96.setTop (mkF m 235 #[oJ a, .second, oJ b, .second, oI c1, oI c2, oI mode, oI lens, oJ ver1, .second, oI vmo, oJ ver2, .second, oI (1 : Int32), oI (2 : Int32), oI dd, oR x1, oR x2, oI (0 : Int32), .unset, .unset, .unset] [(.int (XT.cmpL ver1 ver2))]))
          by_cases hc97 : ver1 = ver2
          · refine Done.step (fun _ => XS.ifNo X96.here hx rfl (hb hby at_235) rfl (XT.ll_ne_f hc97)) ?_
            show Done _ p e below s _ _ (T96.setTop (mkF m 238 #[oJ a, .second, oJ b, .second, oI c1, oI c2, oI mode, oI lens, oJ ver1, .second, oI vmo, oJ ver2, .second, oI (1 : Int32), oI (2 : Int32), oI dd, oR x1, oR x2, oI (0 : Int32), .unset, .unset, .unset] []))
            refine Done.step (fun _ => XS.iload X96.here hx rfl (hb hby at_238) rfl) ?_
            show Done _ p e below s _ _ (T96.setTop (mkF m 240 #[oJ a, .second, oJ b, .second, oI c1, oI c2, oI mode, oI lens, oJ ver1, .second, oI vmo, oJ ver2, .second, oI (1 : Int32), oI (2 : Int32), oI dd, oR x1, oR x2, oI (0 : Int32), .unset, .unset, .unset] [(.int (0 : Int32))]))
            refine Done.step (fun _ => XS.ifYes X96.here hx rfl (pc0 := 240) (pc' := 247) rfl (hb hby at_240) rfl (XT.i0_eq_t rfl) (by decide) (by decide)) ?_
            show Done _ p e below s _ _ (T96.setTop (mkF m 247 #[oJ a, .second, oJ b, .second, oI c1, oI c2, oI mode, oI lens, oJ ver1, .second, oI vmo, oJ ver2, .second, oI (1 : Int32), oI (2 : Int32), oI dd, oR x1, oR x2, oI (0 : Int32), .unset, .unset, .unset] []))
            refine Done.step (fun _ => XT.iconstV X96.here hx rfl (0 : Int32) (hb hby at_247) (by decide)) ?_
            show Done _ p e below s _ _ (T96.setTop (mkF m 248 #[oJ a, .second, oJ b, .second, oI c1, oI c2, oI mode, oI lens, oJ ver1, .second, oI vmo, oJ ver2, .second, oI (1 : Int32), oI (2 : Int32), oI dd, oR x1, oR x2, oI (0 : Int32), .unset, .unset, .unset] [(.int (0 : Int32))]))
            refine Done.step (fun _ => XS.istore X96.here hx rfl (hb hby at_248) rfl (l' := #[oJ a, .second, oJ b, .second, oI c1, oI c2, oI mode, oI lens, oJ ver1, .second, oI vmo, oJ ver2, .second, oI (1 : Int32), oI (2 : Int32), oI dd, oR x1, oR x2, oI (0 : Int32), oI (0 : Int32), .unset, .unset]) rfl) ?_
            show Done _ p e below s _ _ (T96.setTop (mkF m 250 #[oJ a, .second, oJ b, .second, oI c1, oI c2, oI mode, oI lens, oJ ver1, .second, oI vmo, oJ ver2, .second, oI (1 : Int32), oI (2 : Int32), oI dd, oR x1, oR x2, oI (0 : Int32), oI (0 : Int32), .unset, .unset] []))
            have f98 := (f95.keep K96q all0)
            have f99 := (Em1.keep K96q)
            have f100 := (Vm1.keep K96q nin0)
            have f101 := (Cm1.keep K96q nin0)
            have f102 := (Km1.keep K96q nin0)
            exact tl250 Z a0 hw a b ver1 ver2 c1 c2 mode lens vmo (1 : Int32) (2 : Int32) dd (0 : Int32) (0 : Int32) x1 t1 kb1 ([own_ch c1 (0 : Int32)] : List Int32) x2 t2 kb2 ([own_ch dd (0 : Int32), own_ch dd (1 : Int32)] : List Int32) z fm T96.heap n0 Zs96 f98 SC hz SF rF f99 f100 f101 f102 Em2 Vm2 Cm2 Km2 (fun c hc => (List.mem_cons.mp hc).elim (fun e => e ▸ own_chb c1 (0 : Int32)) ((fun c hc => absurd hc List.not_mem_nil) c)) (Nat.le_of_ble_eq_true rfl) (fun c hc => (List.mem_cons.mp hc).elim (fun e => e ▸ own_chb dd (0 : Int32)) ((fun c hc => (List.mem_cons.mp hc).elim (fun e => e ▸ own_chb dd (1 : Int32)) ((fun c hc => absurd hc List.not_mem_nil) c)) c)) (Nat.le_of_ble_eq_true rfl) hv1 hv2 (bP_f (fun q => by have e := congrArg List.length q.2; simp at e)).symm hx hby hml hown hret hlk hZ hS hk rfl (X96.mono (by decide) (by decide)) N96
          · refine Done.step (fun _ => XS.ifYes X96.here hx rfl (pc0 := 235) (pc' := 247) rfl (hb hby at_235) rfl (XT.ll_ne_t hc97) (by decide) (by decide)) ?_
            show Done _ p e below s _ _ (T96.setTop (mkF m 247 #[oJ a, .second, oJ b, .second, oI c1, oI c2, oI mode, oI lens, oJ ver1, .second, oI vmo, oJ ver2, .second, oI (1 : Int32), oI (2 : Int32), oI dd, oR x1, oR x2, oI (0 : Int32), .unset, .unset, .unset] []))
            refine Done.step (fun _ => XT.iconstV X96.here hx rfl (0 : Int32) (hb hby at_247) (by decide)) ?_
            show Done _ p e below s _ _ (T96.setTop (mkF m 248 #[oJ a, .second, oJ b, .second, oI c1, oI c2, oI mode, oI lens, oJ ver1, .second, oI vmo, oJ ver2, .second, oI (1 : Int32), oI (2 : Int32), oI dd, oR x1, oR x2, oI (0 : Int32), .unset, .unset, .unset] [(.int (0 : Int32))]))
            refine Done.step (fun _ => XS.istore X96.here hx rfl (hb hby at_248) rfl (l' := #[oJ a, .second, oJ b, .second, oI c1, oI c2, oI mode, oI lens, oJ ver1, .second, oI vmo, oJ ver2, .second, oI (1 : Int32), oI (2 : Int32), oI dd, oR x1, oR x2, oI (0 : Int32), oI (0 : Int32), .unset, .unset]) rfl) ?_
            show Done _ p e below s _ _ (T96.setTop (mkF m 250 #[oJ a, .second, oJ b, .second, oI c1, oI c2, oI mode, oI lens, oJ ver1, .second, oI vmo, oJ ver2, .second, oI (1 : Int32), oI (2 : Int32), oI dd, oR x1, oR x2, oI (0 : Int32), oI (0 : Int32), .unset, .unset] []))
            have f103 := (f95.keep K96q all0)
            have f104 := (Em1.keep K96q)
            have f105 := (Vm1.keep K96q nin0)
            have f106 := (Cm1.keep K96q nin0)
            have f107 := (Km1.keep K96q nin0)
            exact tl250 Z a0 hw a b ver1 ver2 c1 c2 mode lens vmo (1 : Int32) (2 : Int32) dd (0 : Int32) (0 : Int32) x1 t1 kb1 ([own_ch c1 (0 : Int32)] : List Int32) x2 t2 kb2 ([own_ch dd (0 : Int32), own_ch dd (1 : Int32)] : List Int32) z fm T96.heap n0 Zs96 f103 SC hz SF rF f104 f105 f106 f107 Em2 Vm2 Cm2 Km2 (fun c hc => (List.mem_cons.mp hc).elim (fun e => e ▸ own_chb c1 (0 : Int32)) ((fun c hc => absurd hc List.not_mem_nil) c)) (Nat.le_of_ble_eq_true rfl) (fun c hc => (List.mem_cons.mp hc).elim (fun e => e ▸ own_chb dd (0 : Int32)) ((fun c hc => (List.mem_cons.mp hc).elim (fun e => e ▸ own_chb dd (1 : Int32)) ((fun c hc => absurd hc List.not_mem_nil) c)) c)) (Nat.le_of_ble_eq_true rfl) hv1 hv2 (bP_f (fun q => hc97 q.1.symm)).symm hx hby hml hown hret hlk hZ hS hk rfl (X96.mono (by decide) (by decide)) N96
        · rw [hv]
          show Done _ p e below s _ _ (T54.setTop (mkF m 144 #[oJ a, .second, oJ b, .second, oI c1, oI c2, oI mode, oI lens, oJ ver1, .second, oI vmo, oJ ver2, .second, oI (1 : Int32), oI (3 : Int32), oI dd, oR x1, .unset, .unset, .unset, .unset, .unset] []))
          refine Done.step (fun _ => XS.iload X54.here hx rfl (hb hby at_144) rfl) ?_
          show Done _ p e below s _ _ (T54.setTop (mkF m 146 #[oJ a, .second, oJ b, .second, oI c1, oI c2, oI mode, oI lens, oJ ver1, .second, oI vmo, oJ ver2, .second, oI (1 : Int32), oI (3 : Int32), oI dd, oR x1, .unset, .unset, .unset, .unset, .unset] [(.int (3 : Int32))]))
          refine Done.step (fun _ => XS.iload X54.here hx rfl (hb hby at_146) rfl) ?_
          show Done _ p e below s _ _ (T54.setTop (mkF m 148 #[oJ a, .second, oJ b, .second, oI c1, oI c2, oI mode, oI lens, oJ ver1, .second, oI vmo, oJ ver2, .second, oI (1 : Int32), oI (3 : Int32), oI dd, oR x1, .unset, .unset, .unset, .unset, .unset] [(.int dd), (.int (3 : Int32))]))
          have f108 := (O0.keep K54q all0)
          refine Done.callS X54 hx hZ hown (wAt hw 5 rfl) (wAt hw 6 rfl) (wAt hw 7 rfl) (wAt hw 8 rfl) (by decide) (rmM3 l Z a0 hw [] dd z T54.heap n0 Zs54 f108 SC hz) (fun _ _ => trivial) rfl (g := (mkF m 148 #[oJ a, .second, oJ b, .second, oI c1, oI c2, oI mode, oI lens, oJ ver1, .second, oI vmo, oJ ver2, .second, oI (1 : Int32), oI (3 : Int32), oI dd, oR x1, .unset, .unset, .unset, .unset, .unset] [(.int dd), (.int (3 : Int32))])) rfl (by rw [hml]; rfl) [(.int (3 : Int32)), (.int dd)] [] 0 (lenOf pd_13 rfl) rfl rfl (by show 2 * 0 + _ ≤ _; exact Nat.le_of_eq rfl) (hb hby at_148) (by decide) (by decide) (by decide) (by decide) ?_
          intro T109 v109 L109 X109 q109
          obtain ⟨x2, t2, kb2, rfl, Nq109, K109q, Em2, Vm2, Cm2, Km2⟩ := q109
          have N109 := Fr.app N54 Nq109
          have Zs109 := Nat.le_trans Zs54 K109q.1
          have hk := Nat.le_trans hk K109q.1
          show Done _ p e below s _ _ (T109.setTop (mkF m 151 #[oJ a, .second, oJ b, .second, oI c1, oI c2, oI mode, oI lens, oJ ver1, .second, oI vmo, oJ ver2, .second, oI (1 : Int32), oI (3 : Int32), oI dd, oR x1, .unset, .unset, .unset, .unset, .unset] [(.ref x2)]))
          refine Done.step (fun _ => XS.astore X109.here hx rfl (hb hby at_151) rfl rfl (l' := #[oJ a, .second, oJ b, .second, oI c1, oI c2, oI mode, oI lens, oJ ver1, .second, oI vmo, oJ ver2, .second, oI (1 : Int32), oI (3 : Int32), oI dd, oR x1, oR x2, .unset, .unset, .unset, .unset]) rfl) ?_
          show Done _ p e below s _ _ (T109.setTop (mkF m 153 #[oJ a, .second, oJ b, .second, oI c1, oI c2, oI mode, oI lens, oJ ver1, .second, oI vmo, oJ ver2, .second, oI (1 : Int32), oI (3 : Int32), oI dd, oR x1, oR x2, .unset, .unset, .unset, .unset] []))
          refine Done.step (fun _ => XS.iload X109.here hx rfl (hb hby at_153) rfl) ?_
          show Done _ p e below s _ _ (T109.setTop (mkF m 155 #[oJ a, .second, oJ b, .second, oI c1, oI c2, oI mode, oI lens, oJ ver1, .second, oI vmo, oJ ver2, .second, oI (1 : Int32), oI (3 : Int32), oI dd, oR x1, oR x2, .unset, .unset, .unset, .unset] [(.int (1 : Int32))]))
          refine Done.step (fun _ => XS.iload X109.here hx rfl (hb hby at_155) rfl) ?_
          show Done _ p e below s _ _ (T109.setTop (mkF m 157 #[oJ a, .second, oJ b, .second, oI c1, oI c2, oI mode, oI lens, oJ ver1, .second, oI vmo, oJ ver2, .second, oI (1 : Int32), oI (3 : Int32), oI dd, oR x1, oR x2, .unset, .unset, .unset, .unset] [(.int (3 : Int32)), (.int (1 : Int32))]))
          refine Done.step (fun _ => XS.icmpYes X109.here hx rfl (pc0 := 157) (pc' := 227) rfl (hb hby at_157) rfl (XT.ii_ne_t (by decide)) (by decide) (by decide)) ?_
          show Done _ p e below s _ _ (T109.setTop (mkF m 227 #[oJ a, .second, oJ b, .second, oI c1, oI c2, oI mode, oI lens, oJ ver1, .second, oI vmo, oJ ver2, .second, oI (1 : Int32), oI (3 : Int32), oI dd, oR x1, oR x2, .unset, .unset, .unset, .unset] []))
          refine Done.step (fun _ => XT.iconstV X109.here hx rfl (0 : Int32) (hb hby at_227) (by decide)) ?_
          show Done _ p e below s _ _ (T109.setTop (mkF m 228 #[oJ a, .second, oJ b, .second, oI c1, oI c2, oI mode, oI lens, oJ ver1, .second, oI vmo, oJ ver2, .second, oI (1 : Int32), oI (3 : Int32), oI dd, oR x1, oR x2, .unset, .unset, .unset, .unset] [(.int (0 : Int32))]))
          refine Done.step (fun _ => XS.istore X109.here hx rfl (hb hby at_228) rfl (l' := #[oJ a, .second, oJ b, .second, oI c1, oI c2, oI mode, oI lens, oJ ver1, .second, oI vmo, oJ ver2, .second, oI (1 : Int32), oI (3 : Int32), oI dd, oR x1, oR x2, oI (0 : Int32), .unset, .unset, .unset]) rfl) ?_
          show Done _ p e below s _ _ (T109.setTop (mkF m 230 #[oJ a, .second, oJ b, .second, oI c1, oI c2, oI mode, oI lens, oJ ver1, .second, oI vmo, oJ ver2, .second, oI (1 : Int32), oI (3 : Int32), oI dd, oR x1, oR x2, oI (0 : Int32), .unset, .unset, .unset] []))
          refine Done.step (fun _ => XT.lload X109.here hx rfl (hb hby at_230) rfl) ?_
          show Done _ p e below s _ _ (T109.setTop (mkF m 232 #[oJ a, .second, oJ b, .second, oI c1, oI c2, oI mode, oI lens, oJ ver1, .second, oI vmo, oJ ver2, .second, oI (1 : Int32), oI (3 : Int32), oI dd, oR x1, oR x2, oI (0 : Int32), .unset, .unset, .unset] [(.long ver1)]))
          refine Done.step (fun _ => XT.lload X109.here hx rfl (hb hby at_232) rfl) ?_
          show Done _ p e below s _ _ (T109.setTop (mkF m 234 #[oJ a, .second, oJ b, .second, oI c1, oI c2, oI mode, oI lens, oJ ver1, .second, oI vmo, oJ ver2, .second, oI (1 : Int32), oI (3 : Int32), oI dd, oR x1, oR x2, oI (0 : Int32), .unset, .unset, .unset] [(.long ver2), (.long ver1)]))
          refine Done.step (fun _ => XT.lcmp X109.here hx rfl (hb hby at_234) rfl) ?_
          show Done _ p e below s _ _ (T109.setTop (mkF m 235 #[oJ a, .second, oJ b, .second, oI c1, oI c2, oI mode, oI lens, oJ ver1, .second, oI vmo, oJ ver2, .second, oI (1 : Int32), oI (3 : Int32), oI dd, oR x1, oR x2, oI (0 : Int32), .unset, .unset, .unset] [(.int (XT.cmpL ver1 ver2))]))
          by_cases hc110 : ver1 = ver2
          · refine Done.step (fun _ => XS.ifNo X109.here hx rfl (hb hby at_235) rfl (XT.ll_ne_f hc110)) ?_
            show Done _ p e below s _ _ (T109.setTop (mkF m 238 #[oJ a, .second, oJ b, .second, oI c1, oI c2, oI mode, oI lens, oJ ver1, .second, oI vmo, oJ ver2, .second, oI (1 : Int32), oI (3 : Int32), oI dd, oR x1, oR x2, oI (0 : Int32), .unset, .unset, .unset] []))
            refine Done.step (fun _ => XS.iload X109.here hx rfl (hb hby at_238) rfl) ?_
            show Done _ p e below s _ _ (T109.setTop (mkF m 240 #[oJ a, .second, oJ b, .second, oI c1, oI c2, oI mode, oI lens, oJ ver1, .second, oI vmo, oJ ver2, .second, oI (1 : Int32), oI (3 : Int32), oI dd, oR x1, oR x2, oI (0 : Int32), .unset, .unset, .unset] [(.int (0 : Int32))]))
            refine Done.step (fun _ => XS.ifYes X109.here hx rfl (pc0 := 240) (pc' := 247) rfl (hb hby at_240) rfl (XT.i0_eq_t rfl) (by decide) (by decide)) ?_
            show Done _ p e below s _ _ (T109.setTop (mkF m 247 #[oJ a, .second, oJ b, .second, oI c1, oI c2, oI mode, oI lens, oJ ver1, .second, oI vmo, oJ ver2, .second, oI (1 : Int32), oI (3 : Int32), oI dd, oR x1, oR x2, oI (0 : Int32), .unset, .unset, .unset] []))
            refine Done.step (fun _ => XT.iconstV X109.here hx rfl (0 : Int32) (hb hby at_247) (by decide)) ?_
            show Done _ p e below s _ _ (T109.setTop (mkF m 248 #[oJ a, .second, oJ b, .second, oI c1, oI c2, oI mode, oI lens, oJ ver1, .second, oI vmo, oJ ver2, .second, oI (1 : Int32), oI (3 : Int32), oI dd, oR x1, oR x2, oI (0 : Int32), .unset, .unset, .unset] [(.int (0 : Int32))]))
            refine Done.step (fun _ => XS.istore X109.here hx rfl (hb hby at_248) rfl (l' := #[oJ a, .second, oJ b, .second, oI c1, oI c2, oI mode, oI lens, oJ ver1, .second, oI vmo, oJ ver2, .second, oI (1 : Int32), oI (3 : Int32), oI dd, oR x1, oR x2, oI (0 : Int32), oI (0 : Int32), .unset, .unset]) rfl) ?_
            show Done _ p e below s _ _ (T109.setTop (mkF m 250 #[oJ a, .second, oJ b, .second, oI c1, oI c2, oI mode, oI lens, oJ ver1, .second, oI vmo, oJ ver2, .second, oI (1 : Int32), oI (3 : Int32), oI dd, oR x1, oR x2, oI (0 : Int32), oI (0 : Int32), .unset, .unset] []))
            have f111 := (f108.keep K109q all0)
            have f112 := (Em1.keep K109q)
            have f113 := (Vm1.keep K109q nin0)
            have f114 := (Cm1.keep K109q nin0)
            have f115 := (Km1.keep K109q nin0)
            exact tl250 Z a0 hw a b ver1 ver2 c1 c2 mode lens vmo (1 : Int32) (3 : Int32) dd (0 : Int32) (0 : Int32) x1 t1 kb1 ([own_ch c1 (0 : Int32)] : List Int32) x2 t2 kb2 ([own_ch dd (0 : Int32), own_ch dd (1 : Int32), own_ch dd (2 : Int32)] : List Int32) z fm T109.heap n0 Zs109 f111 SC hz SF rF f112 f113 f114 f115 Em2 Vm2 Cm2 Km2 (fun c hc => (List.mem_cons.mp hc).elim (fun e => e ▸ own_chb c1 (0 : Int32)) ((fun c hc => absurd hc List.not_mem_nil) c)) (Nat.le_of_ble_eq_true rfl) (fun c hc => (List.mem_cons.mp hc).elim (fun e => e ▸ own_chb dd (0 : Int32)) ((fun c hc => (List.mem_cons.mp hc).elim (fun e => e ▸ own_chb dd (1 : Int32)) ((fun c hc => (List.mem_cons.mp hc).elim (fun e => e ▸ own_chb dd (2 : Int32)) ((fun c hc => absurd hc List.not_mem_nil) c)) c)) c)) (Nat.le_of_ble_eq_true rfl) hv1 hv2 (bP_f (fun q => by have e := congrArg List.length q.2; simp at e)).symm hx hby hml hown hret hlk hZ hS hk rfl (X109.mono (by decide) (by decide)) N109
          · refine Done.step (fun _ => XS.ifYes X109.here hx rfl (pc0 := 235) (pc' := 247) rfl (hb hby at_235) rfl (XT.ll_ne_t hc110) (by decide) (by decide)) ?_
            show Done _ p e below s _ _ (T109.setTop (mkF m 247 #[oJ a, .second, oJ b, .second, oI c1, oI c2, oI mode, oI lens, oJ ver1, .second, oI vmo, oJ ver2, .second, oI (1 : Int32), oI (3 : Int32), oI dd, oR x1, oR x2, oI (0 : Int32), .unset, .unset, .unset] []))
            refine Done.step (fun _ => XT.iconstV X109.here hx rfl (0 : Int32) (hb hby at_247) (by decide)) ?_
            show Done _ p e below s _ _ (T109.setTop (mkF m 248 #[oJ a, .second, oJ b, .second, oI c1, oI c2, oI mode, oI lens, oJ ver1, .second, oI vmo, oJ ver2, .second, oI (1 : Int32), oI (3 : Int32), oI dd, oR x1, oR x2, oI (0 : Int32), .unset, .unset, .unset] [(.int (0 : Int32))]))
            refine Done.step (fun _ => XS.istore X109.here hx rfl (hb hby at_248) rfl (l' := #[oJ a, .second, oJ b, .second, oI c1, oI c2, oI mode, oI lens, oJ ver1, .second, oI vmo, oJ ver2, .second, oI (1 : Int32), oI (3 : Int32), oI dd, oR x1, oR x2, oI (0 : Int32), oI (0 : Int32), .unset, .unset]) rfl) ?_
            show Done _ p e below s _ _ (T109.setTop (mkF m 250 #[oJ a, .second, oJ b, .second, oI c1, oI c2, oI mode, oI lens, oJ ver1, .second, oI vmo, oJ ver2, .second, oI (1 : Int32), oI (3 : Int32), oI dd, oR x1, oR x2, oI (0 : Int32), oI (0 : Int32), .unset, .unset] []))
            have f116 := (f108.keep K109q all0)
            have f117 := (Em1.keep K109q)
            have f118 := (Vm1.keep K109q nin0)
            have f119 := (Cm1.keep K109q nin0)
            have f120 := (Km1.keep K109q nin0)
            exact tl250 Z a0 hw a b ver1 ver2 c1 c2 mode lens vmo (1 : Int32) (3 : Int32) dd (0 : Int32) (0 : Int32) x1 t1 kb1 ([own_ch c1 (0 : Int32)] : List Int32) x2 t2 kb2 ([own_ch dd (0 : Int32), own_ch dd (1 : Int32), own_ch dd (2 : Int32)] : List Int32) z fm T109.heap n0 Zs109 f116 SC hz SF rF f117 f118 f119 f120 Em2 Vm2 Cm2 Km2 (fun c hc => (List.mem_cons.mp hc).elim (fun e => e ▸ own_chb c1 (0 : Int32)) ((fun c hc => absurd hc List.not_mem_nil) c)) (Nat.le_of_ble_eq_true rfl) (fun c hc => (List.mem_cons.mp hc).elim (fun e => e ▸ own_chb dd (0 : Int32)) ((fun c hc => (List.mem_cons.mp hc).elim (fun e => e ▸ own_chb dd (1 : Int32)) ((fun c hc => (List.mem_cons.mp hc).elim (fun e => e ▸ own_chb dd (2 : Int32)) ((fun c hc => absurd hc List.not_mem_nil) c)) c)) c)) (Nat.le_of_ble_eq_true rfl) hv1 hv2 (bP_f (fun q => hc110 q.1.symm)).symm hx hby hml hown hret hlk hZ hS hk rfl (X109.mono (by decide) (by decide)) N109
      · rw [hv]
        show Done _ p e below s _ _ (TL.setTop (mkF m 137 #[oJ a, .second, oJ b, .second, oI c1, oI c2, oI mode, oI lens, oJ ver1, .second, oI vmo, oJ ver2, .second, oI (2 : Int32), oI le2, oI dd, .unset, .unset, .unset, .unset, .unset, .unset] [(.int (2 : Int32))]))
        refine Done.step (fun _ => XS.iload XL.here hx rfl (hb hby at_137) rfl) ?_
        show Done _ p e below s _ _ (TL.setTop (mkF m 139 #[oJ a, .second, oJ b, .second, oI c1, oI c2, oI mode, oI lens, oJ ver1, .second, oI vmo, oJ ver2, .second, oI (2 : Int32), oI le2, oI dd, .unset, .unset, .unset, .unset, .unset, .unset] [(.int c1), (.int (2 : Int32))]))
        refine Done.callS XL hx hZ hown (wAt hw 5 rfl) (wAt hw 6 rfl) (wAt hw 7 rfl) (wAt hw 8 rfl) (by decide) (rmM2 l Z a0 hw [] c1 z h0 n0 Z0 O0 SC hz) (fun _ _ => trivial) eL (g := (mkF m 139 #[oJ a, .second, oJ b, .second, oI c1, oI c2, oI mode, oI lens, oJ ver1, .second, oI vmo, oJ ver2, .second, oI (2 : Int32), oI le2, oI dd, .unset, .unset, .unset, .unset, .unset, .unset] [(.int c1), (.int (2 : Int32))])) rfl (by rw [hml]; rfl) [(.int (2 : Int32)), (.int c1)] [] 0 (lenOf pd_13 rfl) rfl rfl (by show 2 * 0 + _ ≤ _; exact Nat.le_of_eq rfl) (hb hby at_139) (by decide) (by decide) (by decide) (by decide) ?_
        intro T121 v121 L121 X121 q121
        obtain ⟨x1, t1, kb1, rfl, Nq121, K121q, Em1, Vm1, Cm1, Km1⟩ := q121
        have N121 := Fr.app N0 Nq121
        have Zs121 := Nat.le_trans Z0 K121q.1
        have hk := Nat.le_trans hk K121q.1
        show Done _ p e below s _ _ (T121.setTop (mkF m 142 #[oJ a, .second, oJ b, .second, oI c1, oI c2, oI mode, oI lens, oJ ver1, .second, oI vmo, oJ ver2, .second, oI (2 : Int32), oI le2, oI dd, .unset, .unset, .unset, .unset, .unset, .unset] [(.ref x1)]))
        refine Done.step (fun _ => XS.astore X121.here hx rfl (hb hby at_142) rfl rfl (l' := #[oJ a, .second, oJ b, .second, oI c1, oI c2, oI mode, oI lens, oJ ver1, .second, oI vmo, oJ ver2, .second, oI (2 : Int32), oI le2, oI dd, oR x1, .unset, .unset, .unset, .unset, .unset]) rfl) ?_
        show Done _ p e below s _ _ (T121.setTop (mkF m 144 #[oJ a, .second, oJ b, .second, oI c1, oI c2, oI mode, oI lens, oJ ver1, .second, oI vmo, oJ ver2, .second, oI (2 : Int32), oI le2, oI dd, oR x1, .unset, .unset, .unset, .unset, .unset] []))
        rcases hl2 with hv | hv | hv | hv
        · rw [hv]
          show Done _ p e below s _ _ (T121.setTop (mkF m 144 #[oJ a, .second, oJ b, .second, oI c1, oI c2, oI mode, oI lens, oJ ver1, .second, oI vmo, oJ ver2, .second, oI (2 : Int32), oI (0 : Int32), oI dd, oR x1, .unset, .unset, .unset, .unset, .unset] []))
          refine Done.step (fun _ => XS.iload X121.here hx rfl (hb hby at_144) rfl) ?_
          show Done _ p e below s _ _ (T121.setTop (mkF m 146 #[oJ a, .second, oJ b, .second, oI c1, oI c2, oI mode, oI lens, oJ ver1, .second, oI vmo, oJ ver2, .second, oI (2 : Int32), oI (0 : Int32), oI dd, oR x1, .unset, .unset, .unset, .unset, .unset] [(.int (0 : Int32))]))
          refine Done.step (fun _ => XS.iload X121.here hx rfl (hb hby at_146) rfl) ?_
          show Done _ p e below s _ _ (T121.setTop (mkF m 148 #[oJ a, .second, oJ b, .second, oI c1, oI c2, oI mode, oI lens, oJ ver1, .second, oI vmo, oJ ver2, .second, oI (2 : Int32), oI (0 : Int32), oI dd, oR x1, .unset, .unset, .unset, .unset, .unset] [(.int dd), (.int (0 : Int32))]))
          have f122 := (O0.keep K121q all0)
          refine Done.callSW X121 hx hZ hown hS hk (wAt hw 5 rfl) (wAt hw 6 rfl) (wAt hw 7 rfl) (wAt hw 8 rfl) (by decide) (rmM0 l Z a0 hw [] dd z T121.heap n0 Zs121 f122 SC hz hh hcw) (fun vm' hW => own_ibV hV hW) rfl (g := (mkF m 148 #[oJ a, .second, oJ b, .second, oI c1, oI c2, oI mode, oI lens, oJ ver1, .second, oI vmo, oJ ver2, .second, oI (2 : Int32), oI (0 : Int32), oI dd, oR x1, .unset, .unset, .unset, .unset, .unset] [(.int dd), (.int (0 : Int32))])) rfl (by rw [hml]; rfl) [(.int (0 : Int32)), (.int dd)] [] 0 (lenOf pd_13 rfl) rfl rfl (by show 2 * 0 + _ ≤ _; exact Nat.le_of_eq rfl) (hb hby at_148) (by decide) (by decide) (by decide) (by decide) ?_
          intro T123 v123 L123 X123 hS hZ hown hW123 q123
          have hk := Nat.le_refl T123.heap.size
          obtain ⟨x2, rfl, Nq123, K123q, aa, bb, kk, LT, FA1, FA2, FB, Em2, Vm2, Cm2⟩ := q123
          have N123 := Fr.app N121 Nq123
          have Zs123 := Nat.le_trans Zs121 K123q.1
          show Done _ p e below s _ _ (T123.setTop (mkF m 151 #[oJ a, .second, oJ b, .second, oI c1, oI c2, oI mode, oI lens, oJ ver1, .second, oI vmo, oJ ver2, .second, oI (2 : Int32), oI (0 : Int32), oI dd, oR x1, .unset, .unset, .unset, .unset, .unset] [(.ref x2)]))
          refine Done.step (fun _ => XS.astore X123.here hx rfl (hb hby at_151) rfl rfl (l' := #[oJ a, .second, oJ b, .second, oI c1, oI c2, oI mode, oI lens, oJ ver1, .second, oI vmo, oJ ver2, .second, oI (2 : Int32), oI (0 : Int32), oI dd, oR x1, oR x2, .unset, .unset, .unset, .unset]) rfl) ?_
          show Done _ p e below s _ _ (T123.setTop (mkF m 153 #[oJ a, .second, oJ b, .second, oI c1, oI c2, oI mode, oI lens, oJ ver1, .second, oI vmo, oJ ver2, .second, oI (2 : Int32), oI (0 : Int32), oI dd, oR x1, oR x2, .unset, .unset, .unset, .unset] []))
          refine Done.step (fun _ => XS.iload X123.here hx rfl (hb hby at_153) rfl) ?_
          show Done _ p e below s _ _ (T123.setTop (mkF m 155 #[oJ a, .second, oJ b, .second, oI c1, oI c2, oI mode, oI lens, oJ ver1, .second, oI vmo, oJ ver2, .second, oI (2 : Int32), oI (0 : Int32), oI dd, oR x1, oR x2, .unset, .unset, .unset, .unset] [(.int (2 : Int32))]))
          refine Done.step (fun _ => XS.iload X123.here hx rfl (hb hby at_155) rfl) ?_
          show Done _ p e below s _ _ (T123.setTop (mkF m 157 #[oJ a, .second, oJ b, .second, oI c1, oI c2, oI mode, oI lens, oJ ver1, .second, oI vmo, oJ ver2, .second, oI (2 : Int32), oI (0 : Int32), oI dd, oR x1, oR x2, .unset, .unset, .unset, .unset] [(.int (0 : Int32)), (.int (2 : Int32))]))
          refine Done.step (fun _ => XS.icmpYes X123.here hx rfl (pc0 := 157) (pc' := 227) rfl (hb hby at_157) rfl (XT.ii_ne_t (by decide)) (by decide) (by decide)) ?_
          show Done _ p e below s _ _ (T123.setTop (mkF m 227 #[oJ a, .second, oJ b, .second, oI c1, oI c2, oI mode, oI lens, oJ ver1, .second, oI vmo, oJ ver2, .second, oI (2 : Int32), oI (0 : Int32), oI dd, oR x1, oR x2, .unset, .unset, .unset, .unset] []))
          refine Done.step (fun _ => XT.iconstV X123.here hx rfl (0 : Int32) (hb hby at_227) (by decide)) ?_
          show Done _ p e below s _ _ (T123.setTop (mkF m 228 #[oJ a, .second, oJ b, .second, oI c1, oI c2, oI mode, oI lens, oJ ver1, .second, oI vmo, oJ ver2, .second, oI (2 : Int32), oI (0 : Int32), oI dd, oR x1, oR x2, .unset, .unset, .unset, .unset] [(.int (0 : Int32))]))
          refine Done.step (fun _ => XS.istore X123.here hx rfl (hb hby at_228) rfl (l' := #[oJ a, .second, oJ b, .second, oI c1, oI c2, oI mode, oI lens, oJ ver1, .second, oI vmo, oJ ver2, .second, oI (2 : Int32), oI (0 : Int32), oI dd, oR x1, oR x2, oI (0 : Int32), .unset, .unset, .unset]) rfl) ?_
          show Done _ p e below s _ _ (T123.setTop (mkF m 230 #[oJ a, .second, oJ b, .second, oI c1, oI c2, oI mode, oI lens, oJ ver1, .second, oI vmo, oJ ver2, .second, oI (2 : Int32), oI (0 : Int32), oI dd, oR x1, oR x2, oI (0 : Int32), .unset, .unset, .unset] []))
          refine Done.step (fun _ => XT.lload X123.here hx rfl (hb hby at_230) rfl) ?_
          show Done _ p e below s _ _ (T123.setTop (mkF m 232 #[oJ a, .second, oJ b, .second, oI c1, oI c2, oI mode, oI lens, oJ ver1, .second, oI vmo, oJ ver2, .second, oI (2 : Int32), oI (0 : Int32), oI dd, oR x1, oR x2, oI (0 : Int32), .unset, .unset, .unset] [(.long ver1)]))
          refine Done.step (fun _ => XT.lload X123.here hx rfl (hb hby at_232) rfl) ?_
          show Done _ p e below s _ _ (T123.setTop (mkF m 234 #[oJ a, .second, oJ b, .second, oI c1, oI c2, oI mode, oI lens, oJ ver1, .second, oI vmo, oJ ver2, .second, oI (2 : Int32), oI (0 : Int32), oI dd, oR x1, oR x2, oI (0 : Int32), .unset, .unset, .unset] [(.long ver2), (.long ver1)]))
          refine Done.step (fun _ => XT.lcmp X123.here hx rfl (hb hby at_234) rfl) ?_
          show Done _ p e below s _ _ (T123.setTop (mkF m 235 #[oJ a, .second, oJ b, .second, oI c1, oI c2, oI mode, oI lens, oJ ver1, .second, oI vmo, oJ ver2, .second, oI (2 : Int32), oI (0 : Int32), oI dd, oR x1, oR x2, oI (0 : Int32), .unset, .unset, .unset] [(.int (XT.cmpL ver1 ver2))]))
          by_cases hc124 : ver1 = ver2
          · refine Done.step (fun _ => XS.ifNo X123.here hx rfl (hb hby at_235) rfl (XT.ll_ne_f hc124)) ?_
            show Done _ p e below s _ _ (T123.setTop (mkF m 238 #[oJ a, .second, oJ b, .second, oI c1, oI c2, oI mode, oI lens, oJ ver1, .second, oI vmo, oJ ver2, .second, oI (2 : Int32), oI (0 : Int32), oI dd, oR x1, oR x2, oI (0 : Int32), .unset, .unset, .unset] []))
            refine Done.step (fun _ => XS.iload X123.here hx rfl (hb hby at_238) rfl) ?_
            show Done _ p e below s _ _ (T123.setTop (mkF m 240 #[oJ a, .second, oJ b, .second, oI c1, oI c2, oI mode, oI lens, oJ ver1, .second, oI vmo, oJ ver2, .second, oI (2 : Int32), oI (0 : Int32), oI dd, oR x1, oR x2, oI (0 : Int32), .unset, .unset, .unset] [(.int (0 : Int32))]))
            refine Done.step (fun _ => XS.ifYes X123.here hx rfl (pc0 := 240) (pc' := 247) rfl (hb hby at_240) rfl (XT.i0_eq_t rfl) (by decide) (by decide)) ?_
            show Done _ p e below s _ _ (T123.setTop (mkF m 247 #[oJ a, .second, oJ b, .second, oI c1, oI c2, oI mode, oI lens, oJ ver1, .second, oI vmo, oJ ver2, .second, oI (2 : Int32), oI (0 : Int32), oI dd, oR x1, oR x2, oI (0 : Int32), .unset, .unset, .unset] []))
            refine Done.step (fun _ => XT.iconstV X123.here hx rfl (0 : Int32) (hb hby at_247) (by decide)) ?_
            show Done _ p e below s _ _ (T123.setTop (mkF m 248 #[oJ a, .second, oJ b, .second, oI c1, oI c2, oI mode, oI lens, oJ ver1, .second, oI vmo, oJ ver2, .second, oI (2 : Int32), oI (0 : Int32), oI dd, oR x1, oR x2, oI (0 : Int32), .unset, .unset, .unset] [(.int (0 : Int32))]))
            refine Done.step (fun _ => XS.istore X123.here hx rfl (hb hby at_248) rfl (l' := #[oJ a, .second, oJ b, .second, oI c1, oI c2, oI mode, oI lens, oJ ver1, .second, oI vmo, oJ ver2, .second, oI (2 : Int32), oI (0 : Int32), oI dd, oR x1, oR x2, oI (0 : Int32), oI (0 : Int32), .unset, .unset]) rfl) ?_
            show Done _ p e below s _ _ (T123.setTop (mkF m 250 #[oJ a, .second, oJ b, .second, oI c1, oI c2, oI mode, oI lens, oJ ver1, .second, oI vmo, oJ ver2, .second, oI (2 : Int32), oI (0 : Int32), oI dd, oR x1, oR x2, oI (0 : Int32), oI (0 : Int32), .unset, .unset] []))
            have f125 := (f122.keep K123q all0)
            have f126 := (Em1.keep K123q)
            have f127 := (Vm1.keep K123q nin0)
            have f128 := (Cm1.keep K123q nin0)
            have f129 := (Km1.keep K123q nin0)
            exact tl250 Z a0 hw a b ver1 ver2 c1 c2 mode lens vmo (2 : Int32) (0 : Int32) dd (0 : Int32) (0 : Int32) x1 t1 kb1 ([own_ch c1 (0 : Int32), own_ch c1 (1 : Int32)] : List Int32) x2 bb kk ([] : List Int32) z fm T123.heap n0 Zs123 f125 SC hz SF rF f126 f127 f128 f129 Em2 Vm2 Cm2 FB (fun c hc => (List.mem_cons.mp hc).elim (fun e => e ▸ own_chb c1 (0 : Int32)) ((fun c hc => (List.mem_cons.mp hc).elim (fun e => e ▸ own_chb c1 (1 : Int32)) ((fun c hc => absurd hc List.not_mem_nil) c)) c)) (Nat.le_of_ble_eq_true rfl) (fun c hc => absurd hc List.not_mem_nil) (Nat.le_of_ble_eq_true rfl) hv1 hv2 (bP_f (fun q => by have e := congrArg List.length q.2; simp at e)).symm hx hby hml hown hret hlk hZ hS hk rfl (X123.mono (by decide) (by decide)) N123
          · refine Done.step (fun _ => XS.ifYes X123.here hx rfl (pc0 := 235) (pc' := 247) rfl (hb hby at_235) rfl (XT.ll_ne_t hc124) (by decide) (by decide)) ?_
            show Done _ p e below s _ _ (T123.setTop (mkF m 247 #[oJ a, .second, oJ b, .second, oI c1, oI c2, oI mode, oI lens, oJ ver1, .second, oI vmo, oJ ver2, .second, oI (2 : Int32), oI (0 : Int32), oI dd, oR x1, oR x2, oI (0 : Int32), .unset, .unset, .unset] []))
            refine Done.step (fun _ => XT.iconstV X123.here hx rfl (0 : Int32) (hb hby at_247) (by decide)) ?_
            show Done _ p e below s _ _ (T123.setTop (mkF m 248 #[oJ a, .second, oJ b, .second, oI c1, oI c2, oI mode, oI lens, oJ ver1, .second, oI vmo, oJ ver2, .second, oI (2 : Int32), oI (0 : Int32), oI dd, oR x1, oR x2, oI (0 : Int32), .unset, .unset, .unset] [(.int (0 : Int32))]))
            refine Done.step (fun _ => XS.istore X123.here hx rfl (hb hby at_248) rfl (l' := #[oJ a, .second, oJ b, .second, oI c1, oI c2, oI mode, oI lens, oJ ver1, .second, oI vmo, oJ ver2, .second, oI (2 : Int32), oI (0 : Int32), oI dd, oR x1, oR x2, oI (0 : Int32), oI (0 : Int32), .unset, .unset]) rfl) ?_
            show Done _ p e below s _ _ (T123.setTop (mkF m 250 #[oJ a, .second, oJ b, .second, oI c1, oI c2, oI mode, oI lens, oJ ver1, .second, oI vmo, oJ ver2, .second, oI (2 : Int32), oI (0 : Int32), oI dd, oR x1, oR x2, oI (0 : Int32), oI (0 : Int32), .unset, .unset] []))
            have f130 := (f122.keep K123q all0)
            have f131 := (Em1.keep K123q)
            have f132 := (Vm1.keep K123q nin0)
            have f133 := (Cm1.keep K123q nin0)
            have f134 := (Km1.keep K123q nin0)
            exact tl250 Z a0 hw a b ver1 ver2 c1 c2 mode lens vmo (2 : Int32) (0 : Int32) dd (0 : Int32) (0 : Int32) x1 t1 kb1 ([own_ch c1 (0 : Int32), own_ch c1 (1 : Int32)] : List Int32) x2 bb kk ([] : List Int32) z fm T123.heap n0 Zs123 f130 SC hz SF rF f131 f132 f133 f134 Em2 Vm2 Cm2 FB (fun c hc => (List.mem_cons.mp hc).elim (fun e => e ▸ own_chb c1 (0 : Int32)) ((fun c hc => (List.mem_cons.mp hc).elim (fun e => e ▸ own_chb c1 (1 : Int32)) ((fun c hc => absurd hc List.not_mem_nil) c)) c)) (Nat.le_of_ble_eq_true rfl) (fun c hc => absurd hc List.not_mem_nil) (Nat.le_of_ble_eq_true rfl) hv1 hv2 (bP_f (fun q => hc124 q.1.symm)).symm hx hby hml hown hret hlk hZ hS hk rfl (X123.mono (by decide) (by decide)) N123
        · rw [hv]
          show Done _ p e below s _ _ (T121.setTop (mkF m 144 #[oJ a, .second, oJ b, .second, oI c1, oI c2, oI mode, oI lens, oJ ver1, .second, oI vmo, oJ ver2, .second, oI (2 : Int32), oI (1 : Int32), oI dd, oR x1, .unset, .unset, .unset, .unset, .unset] []))
          refine Done.step (fun _ => XS.iload X121.here hx rfl (hb hby at_144) rfl) ?_
          show Done _ p e below s _ _ (T121.setTop (mkF m 146 #[oJ a, .second, oJ b, .second, oI c1, oI c2, oI mode, oI lens, oJ ver1, .second, oI vmo, oJ ver2, .second, oI (2 : Int32), oI (1 : Int32), oI dd, oR x1, .unset, .unset, .unset, .unset, .unset] [(.int (1 : Int32))]))
          refine Done.step (fun _ => XS.iload X121.here hx rfl (hb hby at_146) rfl) ?_
          show Done _ p e below s _ _ (T121.setTop (mkF m 148 #[oJ a, .second, oJ b, .second, oI c1, oI c2, oI mode, oI lens, oJ ver1, .second, oI vmo, oJ ver2, .second, oI (2 : Int32), oI (1 : Int32), oI dd, oR x1, .unset, .unset, .unset, .unset, .unset] [(.int dd), (.int (1 : Int32))]))
          have f135 := (O0.keep K121q all0)
          refine Done.callS X121 hx hZ hown (wAt hw 5 rfl) (wAt hw 6 rfl) (wAt hw 7 rfl) (wAt hw 8 rfl) (by decide) (rmM1 l Z a0 hw [] dd z T121.heap n0 Zs121 f135 SC hz) (fun _ _ => trivial) rfl (g := (mkF m 148 #[oJ a, .second, oJ b, .second, oI c1, oI c2, oI mode, oI lens, oJ ver1, .second, oI vmo, oJ ver2, .second, oI (2 : Int32), oI (1 : Int32), oI dd, oR x1, .unset, .unset, .unset, .unset, .unset] [(.int dd), (.int (1 : Int32))])) rfl (by rw [hml]; rfl) [(.int (1 : Int32)), (.int dd)] [] 0 (lenOf pd_13 rfl) rfl rfl (by show 2 * 0 + _ ≤ _; exact Nat.le_of_eq rfl) (hb hby at_148) (by decide) (by decide) (by decide) (by decide) ?_
          intro T136 v136 L136 X136 q136
          obtain ⟨x2, t2, kb2, rfl, Nq136, K136q, Em2, Vm2, Cm2, Km2⟩ := q136
          have N136 := Fr.app N121 Nq136
          have Zs136 := Nat.le_trans Zs121 K136q.1
          have hk := Nat.le_trans hk K136q.1
          show Done _ p e below s _ _ (T136.setTop (mkF m 151 #[oJ a, .second, oJ b, .second, oI c1, oI c2, oI mode, oI lens, oJ ver1, .second, oI vmo, oJ ver2, .second, oI (2 : Int32), oI (1 : Int32), oI dd, oR x1, .unset, .unset, .unset, .unset, .unset] [(.ref x2)]))
          refine Done.step (fun _ => XS.astore X136.here hx rfl (hb hby at_151) rfl rfl (l' := #[oJ a, .second, oJ b, .second, oI c1, oI c2, oI mode, oI lens, oJ ver1, .second, oI vmo, oJ ver2, .second, oI (2 : Int32), oI (1 : Int32), oI dd, oR x1, oR x2, .unset, .unset, .unset, .unset]) rfl) ?_
          show Done _ p e below s _ _ (T136.setTop (mkF m 153 #[oJ a, .second, oJ b, .second, oI c1, oI c2, oI mode, oI lens, oJ ver1, .second, oI vmo, oJ ver2, .second, oI (2 : Int32), oI (1 : Int32), oI dd, oR x1, oR x2, .unset, .unset, .unset, .unset] []))
          refine Done.step (fun _ => XS.iload X136.here hx rfl (hb hby at_153) rfl) ?_
          show Done _ p e below s _ _ (T136.setTop (mkF m 155 #[oJ a, .second, oJ b, .second, oI c1, oI c2, oI mode, oI lens, oJ ver1, .second, oI vmo, oJ ver2, .second, oI (2 : Int32), oI (1 : Int32), oI dd, oR x1, oR x2, .unset, .unset, .unset, .unset] [(.int (2 : Int32))]))
          refine Done.step (fun _ => XS.iload X136.here hx rfl (hb hby at_155) rfl) ?_
          show Done _ p e below s _ _ (T136.setTop (mkF m 157 #[oJ a, .second, oJ b, .second, oI c1, oI c2, oI mode, oI lens, oJ ver1, .second, oI vmo, oJ ver2, .second, oI (2 : Int32), oI (1 : Int32), oI dd, oR x1, oR x2, .unset, .unset, .unset, .unset] [(.int (1 : Int32)), (.int (2 : Int32))]))
          refine Done.step (fun _ => XS.icmpYes X136.here hx rfl (pc0 := 157) (pc' := 227) rfl (hb hby at_157) rfl (XT.ii_ne_t (by decide)) (by decide) (by decide)) ?_
          show Done _ p e below s _ _ (T136.setTop (mkF m 227 #[oJ a, .second, oJ b, .second, oI c1, oI c2, oI mode, oI lens, oJ ver1, .second, oI vmo, oJ ver2, .second, oI (2 : Int32), oI (1 : Int32), oI dd, oR x1, oR x2, .unset, .unset, .unset, .unset] []))
          refine Done.step (fun _ => XT.iconstV X136.here hx rfl (0 : Int32) (hb hby at_227) (by decide)) ?_
          show Done _ p e below s _ _ (T136.setTop (mkF m 228 #[oJ a, .second, oJ b, .second, oI c1, oI c2, oI mode, oI lens, oJ ver1, .second, oI vmo, oJ ver2, .second, oI (2 : Int32), oI (1 : Int32), oI dd, oR x1, oR x2, .unset, .unset, .unset, .unset] [(.int (0 : Int32))]))
          refine Done.step (fun _ => XS.istore X136.here hx rfl (hb hby at_228) rfl (l' := #[oJ a, .second, oJ b, .second, oI c1, oI c2, oI mode, oI lens, oJ ver1, .second, oI vmo, oJ ver2, .second, oI (2 : Int32), oI (1 : Int32), oI dd, oR x1, oR x2, oI (0 : Int32), .unset, .unset, .unset]) rfl) ?_
          show Done _ p e below s _ _ (T136.setTop (mkF m 230 #[oJ a, .second, oJ b, .second, oI c1, oI c2, oI mode, oI lens, oJ ver1, .second, oI vmo, oJ ver2, .second, oI (2 : Int32), oI (1 : Int32), oI dd, oR x1, oR x2, oI (0 : Int32), .unset, .unset, .unset] []))
          refine Done.step (fun _ => XT.lload X136.here hx rfl (hb hby at_230) rfl) ?_
          show Done _ p e below s _ _ (T136.setTop (mkF m 232 #[oJ a, .second, oJ b, .second, oI c1, oI c2, oI mode, oI lens, oJ ver1, .second, oI vmo, oJ ver2, .second, oI (2 : Int32), oI (1 : Int32), oI dd, oR x1, oR x2, oI (0 : Int32), .unset, .unset, .unset] [(.long ver1)]))
          refine Done.step (fun _ => XT.lload X136.here hx rfl (hb hby at_232) rfl) ?_
          show Done _ p e below s _ _ (T136.setTop (mkF m 234 #[oJ a, .second, oJ b, .second, oI c1, oI c2, oI mode, oI lens, oJ ver1, .second, oI vmo, oJ ver2, .second, oI (2 : Int32), oI (1 : Int32), oI dd, oR x1, oR x2, oI (0 : Int32), .unset, .unset, .unset] [(.long ver2), (.long ver1)]))
          refine Done.step (fun _ => XT.lcmp X136.here hx rfl (hb hby at_234) rfl) ?_
          show Done _ p e below s _ _ (T136.setTop (mkF m 235 #[oJ a, .second, oJ b, .second, oI c1, oI c2, oI mode, oI lens, oJ ver1, .second, oI vmo, oJ ver2, .second, oI (2 : Int32), oI (1 : Int32), oI dd, oR x1, oR x2, oI (0 : Int32), .unset, .unset, .unset] [(.int (XT.cmpL ver1 ver2))]))
          by_cases hc137 : ver1 = ver2
          · refine Done.step (fun _ => XS.ifNo X136.here hx rfl (hb hby at_235) rfl (XT.ll_ne_f hc137)) ?_
            show Done _ p e below s _ _ (T136.setTop (mkF m 238 #[oJ a, .second, oJ b, .second, oI c1, oI c2, oI mode, oI lens, oJ ver1, .second, oI vmo, oJ ver2, .second, oI (2 : Int32), oI (1 : Int32), oI dd, oR x1, oR x2, oI (0 : Int32), .unset, .unset, .unset] []))
            refine Done.step (fun _ => XS.iload X136.here hx rfl (hb hby at_238) rfl) ?_
            show Done _ p e below s _ _ (T136.setTop (mkF m 240 #[oJ a, .second, oJ b, .second, oI c1, oI c2, oI mode, oI lens, oJ ver1, .second, oI vmo, oJ ver2, .second, oI (2 : Int32), oI (1 : Int32), oI dd, oR x1, oR x2, oI (0 : Int32), .unset, .unset, .unset] [(.int (0 : Int32))]))
            refine Done.step (fun _ => XS.ifYes X136.here hx rfl (pc0 := 240) (pc' := 247) rfl (hb hby at_240) rfl (XT.i0_eq_t rfl) (by decide) (by decide)) ?_
            show Done _ p e below s _ _ (T136.setTop (mkF m 247 #[oJ a, .second, oJ b, .second, oI c1, oI c2, oI mode, oI lens, oJ ver1, .second, oI vmo, oJ ver2, .second, oI (2 : Int32), oI (1 : Int32), oI dd, oR x1, oR x2, oI (0 : Int32), .unset, .unset, .unset] []))
            refine Done.step (fun _ => XT.iconstV X136.here hx rfl (0 : Int32) (hb hby at_247) (by decide)) ?_
            show Done _ p e below s _ _ (T136.setTop (mkF m 248 #[oJ a, .second, oJ b, .second, oI c1, oI c2, oI mode, oI lens, oJ ver1, .second, oI vmo, oJ ver2, .second, oI (2 : Int32), oI (1 : Int32), oI dd, oR x1, oR x2, oI (0 : Int32), .unset, .unset, .unset] [(.int (0 : Int32))]))
            refine Done.step (fun _ => XS.istore X136.here hx rfl (hb hby at_248) rfl (l' := #[oJ a, .second, oJ b, .second, oI c1, oI c2, oI mode, oI lens, oJ ver1, .second, oI vmo, oJ ver2, .second, oI (2 : Int32), oI (1 : Int32), oI dd, oR x1, oR x2, oI (0 : Int32), oI (0 : Int32), .unset, .unset]) rfl) ?_
            show Done _ p e below s _ _ (T136.setTop (mkF m 250 #[oJ a, .second, oJ b, .second, oI c1, oI c2, oI mode, oI lens, oJ ver1, .second, oI vmo, oJ ver2, .second, oI (2 : Int32), oI (1 : Int32), oI dd, oR x1, oR x2, oI (0 : Int32), oI (0 : Int32), .unset, .unset] []))
            have f138 := (f135.keep K136q all0)
            have f139 := (Em1.keep K136q)
            have f140 := (Vm1.keep K136q nin0)
            have f141 := (Cm1.keep K136q nin0)
            have f142 := (Km1.keep K136q nin0)
            exact tl250 Z a0 hw a b ver1 ver2 c1 c2 mode lens vmo (2 : Int32) (1 : Int32) dd (0 : Int32) (0 : Int32) x1 t1 kb1 ([own_ch c1 (0 : Int32), own_ch c1 (1 : Int32)] : List Int32) x2 t2 kb2 ([own_ch dd (0 : Int32)] : List Int32) z fm T136.heap n0 Zs136 f138 SC hz SF rF f139 f140 f141 f142 Em2 Vm2 Cm2 Km2 (fun c hc => (List.mem_cons.mp hc).elim (fun e => e ▸ own_chb c1 (0 : Int32)) ((fun c hc => (List.mem_cons.mp hc).elim (fun e => e ▸ own_chb c1 (1 : Int32)) ((fun c hc => absurd hc List.not_mem_nil) c)) c)) (Nat.le_of_ble_eq_true rfl) (fun c hc => (List.mem_cons.mp hc).elim (fun e => e ▸ own_chb dd (0 : Int32)) ((fun c hc => absurd hc List.not_mem_nil) c)) (Nat.le_of_ble_eq_true rfl) hv1 hv2 (bP_f (fun q => by have e := congrArg List.length q.2; simp at e)).symm hx hby hml hown hret hlk hZ hS hk rfl (X136.mono (by decide) (by decide)) N136
          · refine Done.step (fun _ => XS.ifYes X136.here hx rfl (pc0 := 235) (pc' := 247) rfl (hb hby at_235) rfl (XT.ll_ne_t hc137) (by decide) (by decide)) ?_
            show Done _ p e below s _ _ (T136.setTop (mkF m 247 #[oJ a, .second, oJ b, .second, oI c1, oI c2, oI mode, oI lens, oJ ver1, .second, oI vmo, oJ ver2, .second, oI (2 : Int32), oI (1 : Int32), oI dd, oR x1, oR x2, oI (0 : Int32), .unset, .unset, .unset] []))
            refine Done.step (fun _ => XT.iconstV X136.here hx rfl (0 : Int32) (hb hby at_247) (by decide)) ?_
            show Done _ p e below s _ _ (T136.setTop (mkF m 248 #[oJ a, .second, oJ b, .second, oI c1, oI c2, oI mode, oI lens, oJ ver1, .second, oI vmo, oJ ver2, .second, oI (2 : Int32), oI (1 : Int32), oI dd, oR x1, oR x2, oI (0 : Int32), .unset, .unset, .unset] [(.int (0 : Int32))]))
            refine Done.step (fun _ => XS.istore X136.here hx rfl (hb hby at_248) rfl (l' := #[oJ a, .second, oJ b, .second, oI c1, oI c2, oI mode, oI lens, oJ ver1, .second, oI vmo, oJ ver2, .second, oI (2 : Int32), oI (1 : Int32), oI dd, oR x1, oR x2, oI (0 : Int32), oI (0 : Int32), .unset, .unset]) rfl) ?_
            show Done _ p e below s _ _ (T136.setTop (mkF m 250 #[oJ a, .second, oJ b, .second, oI c1, oI c2, oI mode, oI lens, oJ ver1, .second, oI vmo, oJ ver2, .second, oI (2 : Int32), oI (1 : Int32), oI dd, oR x1, oR x2, oI (0 : Int32), oI (0 : Int32), .unset, .unset] []))
            have f143 := (f135.keep K136q all0)
            have f144 := (Em1.keep K136q)
            have f145 := (Vm1.keep K136q nin0)
            have f146 := (Cm1.keep K136q nin0)
            have f147 := (Km1.keep K136q nin0)
            exact tl250 Z a0 hw a b ver1 ver2 c1 c2 mode lens vmo (2 : Int32) (1 : Int32) dd (0 : Int32) (0 : Int32) x1 t1 kb1 ([own_ch c1 (0 : Int32), own_ch c1 (1 : Int32)] : List Int32) x2 t2 kb2 ([own_ch dd (0 : Int32)] : List Int32) z fm T136.heap n0 Zs136 f143 SC hz SF rF f144 f145 f146 f147 Em2 Vm2 Cm2 Km2 (fun c hc => (List.mem_cons.mp hc).elim (fun e => e ▸ own_chb c1 (0 : Int32)) ((fun c hc => (List.mem_cons.mp hc).elim (fun e => e ▸ own_chb c1 (1 : Int32)) ((fun c hc => absurd hc List.not_mem_nil) c)) c)) (Nat.le_of_ble_eq_true rfl) (fun c hc => (List.mem_cons.mp hc).elim (fun e => e ▸ own_chb dd (0 : Int32)) ((fun c hc => absurd hc List.not_mem_nil) c)) (Nat.le_of_ble_eq_true rfl) hv1 hv2 (bP_f (fun q => hc137 q.1.symm)).symm hx hby hml hown hret hlk hZ hS hk rfl (X136.mono (by decide) (by decide)) N136
        · rw [hv]
          show Done _ p e below s _ _ (T121.setTop (mkF m 144 #[oJ a, .second, oJ b, .second, oI c1, oI c2, oI mode, oI lens, oJ ver1, .second, oI vmo, oJ ver2, .second, oI (2 : Int32), oI (2 : Int32), oI dd, oR x1, .unset, .unset, .unset, .unset, .unset] []))
          refine Done.step (fun _ => XS.iload X121.here hx rfl (hb hby at_144) rfl) ?_
          show Done _ p e below s _ _ (T121.setTop (mkF m 146 #[oJ a, .second, oJ b, .second, oI c1, oI c2, oI mode, oI lens, oJ ver1, .second, oI vmo, oJ ver2, .second, oI (2 : Int32), oI (2 : Int32), oI dd, oR x1, .unset, .unset, .unset, .unset, .unset] [(.int (2 : Int32))]))
          refine Done.step (fun _ => XS.iload X121.here hx rfl (hb hby at_146) rfl) ?_
          show Done _ p e below s _ _ (T121.setTop (mkF m 148 #[oJ a, .second, oJ b, .second, oI c1, oI c2, oI mode, oI lens, oJ ver1, .second, oI vmo, oJ ver2, .second, oI (2 : Int32), oI (2 : Int32), oI dd, oR x1, .unset, .unset, .unset, .unset, .unset] [(.int dd), (.int (2 : Int32))]))
          have f148 := (O0.keep K121q all0)
          refine Done.callS X121 hx hZ hown (wAt hw 5 rfl) (wAt hw 6 rfl) (wAt hw 7 rfl) (wAt hw 8 rfl) (by decide) (rmM2 l Z a0 hw [] dd z T121.heap n0 Zs121 f148 SC hz) (fun _ _ => trivial) rfl (g := (mkF m 148 #[oJ a, .second, oJ b, .second, oI c1, oI c2, oI mode, oI lens, oJ ver1, .second, oI vmo, oJ ver2, .second, oI (2 : Int32), oI (2 : Int32), oI dd, oR x1, .unset, .unset, .unset, .unset, .unset] [(.int dd), (.int (2 : Int32))])) rfl (by rw [hml]; rfl) [(.int (2 : Int32)), (.int dd)] [] 0 (lenOf pd_13 rfl) rfl rfl (by show 2 * 0 + _ ≤ _; exact Nat.le_of_eq rfl) (hb hby at_148) (by decide) (by decide) (by decide) (by decide) ?_
          intro T149 v149 L149 X149 q149
          obtain ⟨x2, t2, kb2, rfl, Nq149, K149q, Em2, Vm2, Cm2, Km2⟩ := q149
          have N149 := Fr.app N121 Nq149
          have Zs149 := Nat.le_trans Zs121 K149q.1
          have hk := Nat.le_trans hk K149q.1
          show Done _ p e below s _ _ (T149.setTop (mkF m 151 #[oJ a, .second, oJ b, .second, oI c1, oI c2, oI mode, oI lens, oJ ver1, .second, oI vmo, oJ ver2, .second, oI (2 : Int32), oI (2 : Int32), oI dd, oR x1, .unset, .unset, .unset, .unset, .unset] [(.ref x2)]))
          refine Done.step (fun _ => XS.astore X149.here hx rfl (hb hby at_151) rfl rfl (l' := #[oJ a, .second, oJ b, .second, oI c1, oI c2, oI mode, oI lens, oJ ver1, .second, oI vmo, oJ ver2, .second, oI (2 : Int32), oI (2 : Int32), oI dd, oR x1, oR x2, .unset, .unset, .unset, .unset]) rfl) ?_
          show Done _ p e below s _ _ (T149.setTop (mkF m 153 #[oJ a, .second, oJ b, .second, oI c1, oI c2, oI mode, oI lens, oJ ver1, .second, oI vmo, oJ ver2, .second, oI (2 : Int32), oI (2 : Int32), oI dd, oR x1, oR x2, .unset, .unset, .unset, .unset] []))
          refine Done.step (fun _ => XS.iload X149.here hx rfl (hb hby at_153) rfl) ?_
          show Done _ p e below s _ _ (T149.setTop (mkF m 155 #[oJ a, .second, oJ b, .second, oI c1, oI c2, oI mode, oI lens, oJ ver1, .second, oI vmo, oJ ver2, .second, oI (2 : Int32), oI (2 : Int32), oI dd, oR x1, oR x2, .unset, .unset, .unset, .unset] [(.int (2 : Int32))]))
          refine Done.step (fun _ => XS.iload X149.here hx rfl (hb hby at_155) rfl) ?_
          show Done _ p e below s _ _ (T149.setTop (mkF m 157 #[oJ a, .second, oJ b, .second, oI c1, oI c2, oI mode, oI lens, oJ ver1, .second, oI vmo, oJ ver2, .second, oI (2 : Int32), oI (2 : Int32), oI dd, oR x1, oR x2, .unset, .unset, .unset, .unset] [(.int (2 : Int32)), (.int (2 : Int32))]))
          refine Done.step (fun _ => XS.icmpNo X149.here hx rfl (hb hby at_157) rfl (XT.ii_ne_f rfl)) ?_
          show Done _ p e below s _ _ (T149.setTop (mkF m 160 #[oJ a, .second, oJ b, .second, oI c1, oI c2, oI mode, oI lens, oJ ver1, .second, oI vmo, oJ ver2, .second, oI (2 : Int32), oI (2 : Int32), oI dd, oR x1, oR x2, .unset, .unset, .unset, .unset] []))
          refine Done.step (fun _ => XS.iload X149.here hx rfl (hb hby at_160) rfl) ?_
          show Done _ p e below s _ _ (T149.setTop (mkF m 162 #[oJ a, .second, oJ b, .second, oI c1, oI c2, oI mode, oI lens, oJ ver1, .second, oI vmo, oJ ver2, .second, oI (2 : Int32), oI (2 : Int32), oI dd, oR x1, oR x2, .unset, .unset, .unset, .unset] [(.int (2 : Int32))]))
          refine Done.step (fun _ => XT.iconstV X149.here hx rfl (1 : Int32) (hb hby at_162) (by decide)) ?_
          show Done _ p e below s _ _ (T149.setTop (mkF m 163 #[oJ a, .second, oJ b, .second, oI c1, oI c2, oI mode, oI lens, oJ ver1, .second, oI vmo, oJ ver2, .second, oI (2 : Int32), oI (2 : Int32), oI dd, oR x1, oR x2, .unset, .unset, .unset, .unset] [(.int (1 : Int32)), (.int (2 : Int32))]))
          refine Done.step (fun _ => XS.icmpNo X149.here hx rfl (hb hby at_163) rfl (XT.ii_lt_f (by decide))) ?_
          show Done _ p e below s _ _ (T149.setTop (mkF m 166 #[oJ a, .second, oJ b, .second, oI c1, oI c2, oI mode, oI lens, oJ ver1, .second, oI vmo, oJ ver2, .second, oI (2 : Int32), oI (2 : Int32), oI dd, oR x1, oR x2, .unset, .unset, .unset, .unset] []))
          refine Done.step (fun _ => XS.iload X149.here hx rfl (hb hby at_166) rfl) ?_
          show Done _ p e below s _ _ (T149.setTop (mkF m 168 #[oJ a, .second, oJ b, .second, oI c1, oI c2, oI mode, oI lens, oJ ver1, .second, oI vmo, oJ ver2, .second, oI (2 : Int32), oI (2 : Int32), oI dd, oR x1, oR x2, .unset, .unset, .unset, .unset] [(.int c1)]))
          refine Done.step (fun _ => XT.iconstV X149.here hx rfl (0 : Int32) (hb hby at_168) (by decide)) ?_
          show Done _ p e below s _ _ (T149.setTop (mkF m 169 #[oJ a, .second, oJ b, .second, oI c1, oI c2, oI mode, oI lens, oJ ver1, .second, oI vmo, oJ ver2, .second, oI (2 : Int32), oI (2 : Int32), oI dd, oR x1, oR x2, .unset, .unset, .unset, .unset] [(.int (0 : Int32)), (.int c1)]))
          refine Done.callSP X149 hx hZ hown (wAt hw 13 rfl) (wAt hw 14 rfl) (wAt hw 7 rfl) (wAt hw 15 rfl) (by decide) (rmCh l Z a0 hw [] c1 (0 : Int32) T149.heap n0 Zs149) rfl (g := (mkF m 169 #[oJ a, .second, oJ b, .second, oI c1, oI c2, oI mode, oI lens, oJ ver1, .second, oI vmo, oJ ver2, .second, oI (2 : Int32), oI (2 : Int32), oI dd, oR x1, oR x2, .unset, .unset, .unset, .unset] [(.int (0 : Int32)), (.int c1)])) rfl (by rw [hml]; rfl) [(.int c1), (.int (0 : Int32))] [] 0 (lenOf pd_10 rfl) rfl rfl (by show 2 * 0 + _ ≤ _; exact Nat.le_of_eq rfl) (hb hby at_169) (by decide) (by decide) (by decide) (by decide) rfl rfl ?_
          intro T150 X150 e150
          show Done _ p e below s _ _ (T150.setTop (mkF m 172 #[oJ a, .second, oJ b, .second, oI c1, oI c2, oI mode, oI lens, oJ ver1, .second, oI vmo, oJ ver2, .second, oI (2 : Int32), oI (2 : Int32), oI dd, oR x1, oR x2, .unset, .unset, .unset, .unset] [(.int (own_ch c1 (0 : Int32)))]))
          refine Done.step (fun _ => XS.iload X150.here hx rfl (hb hby at_172) rfl) ?_
          show Done _ p e below s _ _ (T150.setTop (mkF m 174 #[oJ a, .second, oJ b, .second, oI c1, oI c2, oI mode, oI lens, oJ ver1, .second, oI vmo, oJ ver2, .second, oI (2 : Int32), oI (2 : Int32), oI dd, oR x1, oR x2, .unset, .unset, .unset, .unset] [(.int dd), (.int (own_ch c1 (0 : Int32)))]))
          refine Done.step (fun _ => XT.iconstV X150.here hx rfl (0 : Int32) (hb hby at_174) (by decide)) ?_
          show Done _ p e below s _ _ (T150.setTop (mkF m 175 #[oJ a, .second, oJ b, .second, oI c1, oI c2, oI mode, oI lens, oJ ver1, .second, oI vmo, oJ ver2, .second, oI (2 : Int32), oI (2 : Int32), oI dd, oR x1, oR x2, .unset, .unset, .unset, .unset] [(.int (0 : Int32)), (.int dd), (.int (own_ch c1 (0 : Int32)))]))
          refine Done.callSP X150 hx hZ hown (wAt hw 13 rfl) (wAt hw 14 rfl) (wAt hw 7 rfl) (wAt hw 15 rfl) (by decide) (rmCh l Z a0 hw [] dd (0 : Int32) T149.heap n0 Zs149) e150 (g := (mkF m 175 #[oJ a, .second, oJ b, .second, oI c1, oI c2, oI mode, oI lens, oJ ver1, .second, oI vmo, oJ ver2, .second, oI (2 : Int32), oI (2 : Int32), oI dd, oR x1, oR x2, .unset, .unset, .unset, .unset] [(.int (0 : Int32)), (.int dd), (.int (own_ch c1 (0 : Int32)))])) rfl (by rw [hml]; rfl) [(.int dd), (.int (0 : Int32))] [(.int (own_ch c1 (0 : Int32)))] 1 (lenOf pd_10 rfl) rfl rfl (by show 2 * 0 + _ ≤ _; exact Nat.le_of_eq rfl) (hb hby at_175) (by decide) (by decide) (by decide) (by decide) rfl rfl ?_
          intro T151 X151 e151
          show Done _ p e below s _ _ (T151.setTop (mkF m 178 #[oJ a, .second, oJ b, .second, oI c1, oI c2, oI mode, oI lens, oJ ver1, .second, oI vmo, oJ ver2, .second, oI (2 : Int32), oI (2 : Int32), oI dd, oR x1, oR x2, .unset, .unset, .unset, .unset] [(.int (own_ch dd (0 : Int32))), (.int (own_ch c1 (0 : Int32)))]))
          by_cases hc152 : (own_ch c1 (0 : Int32)) = (own_ch dd (0 : Int32))
          · refine Done.step (fun _ => XS.icmpNo X151.here hx rfl (hb hby at_178) rfl (XT.ii_ne_f hc152)) ?_
            show Done _ p e below s _ _ (T151.setTop (mkF m 181 #[oJ a, .second, oJ b, .second, oI c1, oI c2, oI mode, oI lens, oJ ver1, .second, oI vmo, oJ ver2, .second, oI (2 : Int32), oI (2 : Int32), oI dd, oR x1, oR x2, .unset, .unset, .unset, .unset] []))
            refine Done.step (fun _ => XS.iload X151.here hx rfl (hb hby at_181) rfl) ?_
            show Done _ p e below s _ _ (T151.setTop (mkF m 183 #[oJ a, .second, oJ b, .second, oI c1, oI c2, oI mode, oI lens, oJ ver1, .second, oI vmo, oJ ver2, .second, oI (2 : Int32), oI (2 : Int32), oI dd, oR x1, oR x2, .unset, .unset, .unset, .unset] [(.int (2 : Int32))]))
            refine Done.step (fun _ => XT.iconstV X151.here hx rfl (2 : Int32) (hb hby at_183) (by decide)) ?_
            show Done _ p e below s _ _ (T151.setTop (mkF m 184 #[oJ a, .second, oJ b, .second, oI c1, oI c2, oI mode, oI lens, oJ ver1, .second, oI vmo, oJ ver2, .second, oI (2 : Int32), oI (2 : Int32), oI dd, oR x1, oR x2, .unset, .unset, .unset, .unset] [(.int (2 : Int32)), (.int (2 : Int32))]))
            refine Done.step (fun _ => XS.icmpNo X151.here hx rfl (hb hby at_184) rfl (XT.ii_lt_f (by decide))) ?_
            show Done _ p e below s _ _ (T151.setTop (mkF m 187 #[oJ a, .second, oJ b, .second, oI c1, oI c2, oI mode, oI lens, oJ ver1, .second, oI vmo, oJ ver2, .second, oI (2 : Int32), oI (2 : Int32), oI dd, oR x1, oR x2, .unset, .unset, .unset, .unset] []))
            refine Done.step (fun _ => XS.iload X151.here hx rfl (hb hby at_187) rfl) ?_
            show Done _ p e below s _ _ (T151.setTop (mkF m 189 #[oJ a, .second, oJ b, .second, oI c1, oI c2, oI mode, oI lens, oJ ver1, .second, oI vmo, oJ ver2, .second, oI (2 : Int32), oI (2 : Int32), oI dd, oR x1, oR x2, .unset, .unset, .unset, .unset] [(.int c1)]))
            refine Done.step (fun _ => XT.iconstV X151.here hx rfl (1 : Int32) (hb hby at_189) (by decide)) ?_
            show Done _ p e below s _ _ (T151.setTop (mkF m 190 #[oJ a, .second, oJ b, .second, oI c1, oI c2, oI mode, oI lens, oJ ver1, .second, oI vmo, oJ ver2, .second, oI (2 : Int32), oI (2 : Int32), oI dd, oR x1, oR x2, .unset, .unset, .unset, .unset] [(.int (1 : Int32)), (.int c1)]))
            refine Done.callSP X151 hx hZ hown (wAt hw 13 rfl) (wAt hw 14 rfl) (wAt hw 7 rfl) (wAt hw 15 rfl) (by decide) (rmCh l Z a0 hw [] c1 (1 : Int32) T149.heap n0 Zs149) e151 (g := (mkF m 190 #[oJ a, .second, oJ b, .second, oI c1, oI c2, oI mode, oI lens, oJ ver1, .second, oI vmo, oJ ver2, .second, oI (2 : Int32), oI (2 : Int32), oI dd, oR x1, oR x2, .unset, .unset, .unset, .unset] [(.int (1 : Int32)), (.int c1)])) rfl (by rw [hml]; rfl) [(.int c1), (.int (1 : Int32))] [] 0 (lenOf pd_10 rfl) rfl rfl (by show 2 * 0 + _ ≤ _; exact Nat.le_of_eq rfl) (hb hby at_190) (by decide) (by decide) (by decide) (by decide) rfl rfl ?_
            intro T153 X153 e153
            show Done _ p e below s _ _ (T153.setTop (mkF m 193 #[oJ a, .second, oJ b, .second, oI c1, oI c2, oI mode, oI lens, oJ ver1, .second, oI vmo, oJ ver2, .second, oI (2 : Int32), oI (2 : Int32), oI dd, oR x1, oR x2, .unset, .unset, .unset, .unset] [(.int (own_ch c1 (1 : Int32)))]))
            refine Done.step (fun _ => XS.iload X153.here hx rfl (hb hby at_193) rfl) ?_
            show Done _ p e below s _ _ (T153.setTop (mkF m 195 #[oJ a, .second, oJ b, .second, oI c1, oI c2, oI mode, oI lens, oJ ver1, .second, oI vmo, oJ ver2, .second, oI (2 : Int32), oI (2 : Int32), oI dd, oR x1, oR x2, .unset, .unset, .unset, .unset] [(.int dd), (.int (own_ch c1 (1 : Int32)))]))
            refine Done.step (fun _ => XT.iconstV X153.here hx rfl (1 : Int32) (hb hby at_195) (by decide)) ?_
            show Done _ p e below s _ _ (T153.setTop (mkF m 196 #[oJ a, .second, oJ b, .second, oI c1, oI c2, oI mode, oI lens, oJ ver1, .second, oI vmo, oJ ver2, .second, oI (2 : Int32), oI (2 : Int32), oI dd, oR x1, oR x2, .unset, .unset, .unset, .unset] [(.int (1 : Int32)), (.int dd), (.int (own_ch c1 (1 : Int32)))]))
            refine Done.callSP X153 hx hZ hown (wAt hw 13 rfl) (wAt hw 14 rfl) (wAt hw 7 rfl) (wAt hw 15 rfl) (by decide) (rmCh l Z a0 hw [] dd (1 : Int32) T149.heap n0 Zs149) e153 (g := (mkF m 196 #[oJ a, .second, oJ b, .second, oI c1, oI c2, oI mode, oI lens, oJ ver1, .second, oI vmo, oJ ver2, .second, oI (2 : Int32), oI (2 : Int32), oI dd, oR x1, oR x2, .unset, .unset, .unset, .unset] [(.int (1 : Int32)), (.int dd), (.int (own_ch c1 (1 : Int32)))])) rfl (by rw [hml]; rfl) [(.int dd), (.int (1 : Int32))] [(.int (own_ch c1 (1 : Int32)))] 1 (lenOf pd_10 rfl) rfl rfl (by show 2 * 0 + _ ≤ _; exact Nat.le_of_eq rfl) (hb hby at_196) (by decide) (by decide) (by decide) (by decide) rfl rfl ?_
            intro T154 X154 e154
            show Done _ p e below s _ _ (T154.setTop (mkF m 199 #[oJ a, .second, oJ b, .second, oI c1, oI c2, oI mode, oI lens, oJ ver1, .second, oI vmo, oJ ver2, .second, oI (2 : Int32), oI (2 : Int32), oI dd, oR x1, oR x2, .unset, .unset, .unset, .unset] [(.int (own_ch dd (1 : Int32))), (.int (own_ch c1 (1 : Int32)))]))
            by_cases hc155 : (own_ch c1 (1 : Int32)) = (own_ch dd (1 : Int32))
            · refine Done.step (fun _ => XS.icmpNo X154.here hx rfl (hb hby at_199) rfl (XT.ii_ne_f hc155)) ?_
              show Done _ p e below s _ _ (T154.setTop (mkF m 202 #[oJ a, .second, oJ b, .second, oI c1, oI c2, oI mode, oI lens, oJ ver1, .second, oI vmo, oJ ver2, .second, oI (2 : Int32), oI (2 : Int32), oI dd, oR x1, oR x2, .unset, .unset, .unset, .unset] []))
              refine Done.step (fun _ => XS.iload X154.here hx rfl (hb hby at_202) rfl) ?_
              show Done _ p e below s _ _ (T154.setTop (mkF m 204 #[oJ a, .second, oJ b, .second, oI c1, oI c2, oI mode, oI lens, oJ ver1, .second, oI vmo, oJ ver2, .second, oI (2 : Int32), oI (2 : Int32), oI dd, oR x1, oR x2, .unset, .unset, .unset, .unset] [(.int (2 : Int32))]))
              refine Done.step (fun _ => XT.iconstV X154.here hx rfl (3 : Int32) (hb hby at_204) (by decide)) ?_
              show Done _ p e below s _ _ (T154.setTop (mkF m 205 #[oJ a, .second, oJ b, .second, oI c1, oI c2, oI mode, oI lens, oJ ver1, .second, oI vmo, oJ ver2, .second, oI (2 : Int32), oI (2 : Int32), oI dd, oR x1, oR x2, .unset, .unset, .unset, .unset] [(.int (3 : Int32)), (.int (2 : Int32))]))
              refine Done.step (fun _ => XS.icmpYes X154.here hx rfl (pc0 := 205) (pc' := 223) rfl (hb hby at_205) rfl (XT.ii_lt_t (by decide)) (by decide) (by decide)) ?_
              show Done _ p e below s _ _ (T154.setTop (mkF m 223 #[oJ a, .second, oJ b, .second, oI c1, oI c2, oI mode, oI lens, oJ ver1, .second, oI vmo, oJ ver2, .second, oI (2 : Int32), oI (2 : Int32), oI dd, oR x1, oR x2, .unset, .unset, .unset, .unset] []))
              refine Done.step (fun _ => XT.iconstV X154.here hx rfl (1 : Int32) (hb hby at_223) (by decide)) ?_
              show Done _ p e below s _ _ (T154.setTop (mkF m 224 #[oJ a, .second, oJ b, .second, oI c1, oI c2, oI mode, oI lens, oJ ver1, .second, oI vmo, oJ ver2, .second, oI (2 : Int32), oI (2 : Int32), oI dd, oR x1, oR x2, .unset, .unset, .unset, .unset] [(.int (1 : Int32))]))
              refine Done.step (fun _ => XS.goto X154.here hx rfl (pc0 := 224) (pc' := 228) rfl (hb hby at_224) (by decide) (by decide)) ?_
              show Done _ p e below s _ _ (T154.setTop (mkF m 228 #[oJ a, .second, oJ b, .second, oI c1, oI c2, oI mode, oI lens, oJ ver1, .second, oI vmo, oJ ver2, .second, oI (2 : Int32), oI (2 : Int32), oI dd, oR x1, oR x2, .unset, .unset, .unset, .unset] [(.int (1 : Int32))]))
              refine Done.step (fun _ => XS.istore X154.here hx rfl (hb hby at_228) rfl (l' := #[oJ a, .second, oJ b, .second, oI c1, oI c2, oI mode, oI lens, oJ ver1, .second, oI vmo, oJ ver2, .second, oI (2 : Int32), oI (2 : Int32), oI dd, oR x1, oR x2, oI (1 : Int32), .unset, .unset, .unset]) rfl) ?_
              show Done _ p e below s _ _ (T154.setTop (mkF m 230 #[oJ a, .second, oJ b, .second, oI c1, oI c2, oI mode, oI lens, oJ ver1, .second, oI vmo, oJ ver2, .second, oI (2 : Int32), oI (2 : Int32), oI dd, oR x1, oR x2, oI (1 : Int32), .unset, .unset, .unset] []))
              refine Done.step (fun _ => XT.lload X154.here hx rfl (hb hby at_230) rfl) ?_
              show Done _ p e below s _ _ (T154.setTop (mkF m 232 #[oJ a, .second, oJ b, .second, oI c1, oI c2, oI mode, oI lens, oJ ver1, .second, oI vmo, oJ ver2, .second, oI (2 : Int32), oI (2 : Int32), oI dd, oR x1, oR x2, oI (1 : Int32), .unset, .unset, .unset] [(.long ver1)]))
              refine Done.step (fun _ => XT.lload X154.here hx rfl (hb hby at_232) rfl) ?_
              show Done _ p e below s _ _ (T154.setTop (mkF m 234 #[oJ a, .second, oJ b, .second, oI c1, oI c2, oI mode, oI lens, oJ ver1, .second, oI vmo, oJ ver2, .second, oI (2 : Int32), oI (2 : Int32), oI dd, oR x1, oR x2, oI (1 : Int32), .unset, .unset, .unset] [(.long ver2), (.long ver1)]))
              refine Done.step (fun _ => XT.lcmp X154.here hx rfl (hb hby at_234) rfl) ?_
              show Done _ p e below s _ _ (T154.setTop (mkF m 235 #[oJ a, .second, oJ b, .second, oI c1, oI c2, oI mode, oI lens, oJ ver1, .second, oI vmo, oJ ver2, .second, oI (2 : Int32), oI (2 : Int32), oI dd, oR x1, oR x2, oI (1 : Int32), .unset, .unset, .unset] [(.int (XT.cmpL ver1 ver2))]))
              by_cases hc156 : ver1 = ver2
              · refine Done.step (fun _ => XS.ifNo X154.here hx rfl (hb hby at_235) rfl (XT.ll_ne_f hc156)) ?_
                show Done _ p e below s _ _ (T154.setTop (mkF m 238 #[oJ a, .second, oJ b, .second, oI c1, oI c2, oI mode, oI lens, oJ ver1, .second, oI vmo, oJ ver2, .second, oI (2 : Int32), oI (2 : Int32), oI dd, oR x1, oR x2, oI (1 : Int32), .unset, .unset, .unset] []))
                refine Done.step (fun _ => XS.iload X154.here hx rfl (hb hby at_238) rfl) ?_
                show Done _ p e below s _ _ (T154.setTop (mkF m 240 #[oJ a, .second, oJ b, .second, oI c1, oI c2, oI mode, oI lens, oJ ver1, .second, oI vmo, oJ ver2, .second, oI (2 : Int32), oI (2 : Int32), oI dd, oR x1, oR x2, oI (1 : Int32), .unset, .unset, .unset] [(.int (1 : Int32))]))
                refine Done.step (fun _ => XS.ifNo X154.here hx rfl (hb hby at_240) rfl (XT.i0_eq_f (by decide))) ?_
                show Done _ p e below s _ _ (T154.setTop (mkF m 243 #[oJ a, .second, oJ b, .second, oI c1, oI c2, oI mode, oI lens, oJ ver1, .second, oI vmo, oJ ver2, .second, oI (2 : Int32), oI (2 : Int32), oI dd, oR x1, oR x2, oI (1 : Int32), .unset, .unset, .unset] []))
                refine Done.step (fun _ => XT.iconstV X154.here hx rfl (1 : Int32) (hb hby at_243) (by decide)) ?_
                show Done _ p e below s _ _ (T154.setTop (mkF m 244 #[oJ a, .second, oJ b, .second, oI c1, oI c2, oI mode, oI lens, oJ ver1, .second, oI vmo, oJ ver2, .second, oI (2 : Int32), oI (2 : Int32), oI dd, oR x1, oR x2, oI (1 : Int32), .unset, .unset, .unset] [(.int (1 : Int32))]))
                refine Done.step (fun _ => XS.goto X154.here hx rfl (pc0 := 244) (pc' := 248) rfl (hb hby at_244) (by decide) (by decide)) ?_
                show Done _ p e below s _ _ (T154.setTop (mkF m 248 #[oJ a, .second, oJ b, .second, oI c1, oI c2, oI mode, oI lens, oJ ver1, .second, oI vmo, oJ ver2, .second, oI (2 : Int32), oI (2 : Int32), oI dd, oR x1, oR x2, oI (1 : Int32), .unset, .unset, .unset] [(.int (1 : Int32))]))
                refine Done.step (fun _ => XS.istore X154.here hx rfl (hb hby at_248) rfl (l' := #[oJ a, .second, oJ b, .second, oI c1, oI c2, oI mode, oI lens, oJ ver1, .second, oI vmo, oJ ver2, .second, oI (2 : Int32), oI (2 : Int32), oI dd, oR x1, oR x2, oI (1 : Int32), oI (1 : Int32), .unset, .unset]) rfl) ?_
                show Done _ p e below s _ _ (T154.setTop (mkF m 250 #[oJ a, .second, oJ b, .second, oI c1, oI c2, oI mode, oI lens, oJ ver1, .second, oI vmo, oJ ver2, .second, oI (2 : Int32), oI (2 : Int32), oI dd, oR x1, oR x2, oI (1 : Int32), oI (1 : Int32), .unset, .unset] []))
                have f157 := (f148.keep K149q all0)
                have f158 := (Em1.keep K149q)
                have f159 := (Vm1.keep K149q nin0)
                have f160 := (Cm1.keep K149q nin0)
                have f161 := (Km1.keep K149q nin0)
                exact tl250 Z a0 hw a b ver1 ver2 c1 c2 mode lens vmo (2 : Int32) (2 : Int32) dd (1 : Int32) (1 : Int32) x1 t1 kb1 ([own_ch c1 (0 : Int32), own_ch c1 (1 : Int32)] : List Int32) x2 t2 kb2 ([own_ch dd (0 : Int32), own_ch dd (1 : Int32)] : List Int32) z fm T149.heap n0 Zs149 f157 SC hz SF rF f158 f159 f160 f161 Em2 Vm2 Cm2 Km2 (fun c hc => (List.mem_cons.mp hc).elim (fun e => e ▸ own_chb c1 (0 : Int32)) ((fun c hc => (List.mem_cons.mp hc).elim (fun e => e ▸ own_chb c1 (1 : Int32)) ((fun c hc => absurd hc List.not_mem_nil) c)) c)) (Nat.le_of_ble_eq_true rfl) (fun c hc => (List.mem_cons.mp hc).elim (fun e => e ▸ own_chb dd (0 : Int32)) ((fun c hc => (List.mem_cons.mp hc).elim (fun e => e ▸ own_chb dd (1 : Int32)) ((fun c hc => absurd hc List.not_mem_nil) c)) c)) (Nat.le_of_ble_eq_true rfl) hv1 hv2 (bP_t ⟨hc156.symm, (own_L2 _ _ _ _).mpr ⟨hc152, hc155⟩⟩).symm hx hby hml hown hret hlk hZ hS hk e154 (X154.mono (by decide) (by decide)) N149
              · refine Done.step (fun _ => XS.ifYes X154.here hx rfl (pc0 := 235) (pc' := 247) rfl (hb hby at_235) rfl (XT.ll_ne_t hc156) (by decide) (by decide)) ?_
                show Done _ p e below s _ _ (T154.setTop (mkF m 247 #[oJ a, .second, oJ b, .second, oI c1, oI c2, oI mode, oI lens, oJ ver1, .second, oI vmo, oJ ver2, .second, oI (2 : Int32), oI (2 : Int32), oI dd, oR x1, oR x2, oI (1 : Int32), .unset, .unset, .unset] []))
                refine Done.step (fun _ => XT.iconstV X154.here hx rfl (0 : Int32) (hb hby at_247) (by decide)) ?_
                show Done _ p e below s _ _ (T154.setTop (mkF m 248 #[oJ a, .second, oJ b, .second, oI c1, oI c2, oI mode, oI lens, oJ ver1, .second, oI vmo, oJ ver2, .second, oI (2 : Int32), oI (2 : Int32), oI dd, oR x1, oR x2, oI (1 : Int32), .unset, .unset, .unset] [(.int (0 : Int32))]))
                refine Done.step (fun _ => XS.istore X154.here hx rfl (hb hby at_248) rfl (l' := #[oJ a, .second, oJ b, .second, oI c1, oI c2, oI mode, oI lens, oJ ver1, .second, oI vmo, oJ ver2, .second, oI (2 : Int32), oI (2 : Int32), oI dd, oR x1, oR x2, oI (1 : Int32), oI (0 : Int32), .unset, .unset]) rfl) ?_
                show Done _ p e below s _ _ (T154.setTop (mkF m 250 #[oJ a, .second, oJ b, .second, oI c1, oI c2, oI mode, oI lens, oJ ver1, .second, oI vmo, oJ ver2, .second, oI (2 : Int32), oI (2 : Int32), oI dd, oR x1, oR x2, oI (1 : Int32), oI (0 : Int32), .unset, .unset] []))
                have f162 := (f148.keep K149q all0)
                have f163 := (Em1.keep K149q)
                have f164 := (Vm1.keep K149q nin0)
                have f165 := (Cm1.keep K149q nin0)
                have f166 := (Km1.keep K149q nin0)
                exact tl250 Z a0 hw a b ver1 ver2 c1 c2 mode lens vmo (2 : Int32) (2 : Int32) dd (1 : Int32) (0 : Int32) x1 t1 kb1 ([own_ch c1 (0 : Int32), own_ch c1 (1 : Int32)] : List Int32) x2 t2 kb2 ([own_ch dd (0 : Int32), own_ch dd (1 : Int32)] : List Int32) z fm T149.heap n0 Zs149 f162 SC hz SF rF f163 f164 f165 f166 Em2 Vm2 Cm2 Km2 (fun c hc => (List.mem_cons.mp hc).elim (fun e => e ▸ own_chb c1 (0 : Int32)) ((fun c hc => (List.mem_cons.mp hc).elim (fun e => e ▸ own_chb c1 (1 : Int32)) ((fun c hc => absurd hc List.not_mem_nil) c)) c)) (Nat.le_of_ble_eq_true rfl) (fun c hc => (List.mem_cons.mp hc).elim (fun e => e ▸ own_chb dd (0 : Int32)) ((fun c hc => (List.mem_cons.mp hc).elim (fun e => e ▸ own_chb dd (1 : Int32)) ((fun c hc => absurd hc List.not_mem_nil) c)) c)) (Nat.le_of_ble_eq_true rfl) hv1 hv2 (bP_f (fun q => hc156 q.1.symm)).symm hx hby hml hown hret hlk hZ hS hk e154 (X154.mono (by decide) (by decide)) N149
            · refine Done.step (fun _ => XS.icmpYes X154.here hx rfl (pc0 := 199) (pc' := 227) rfl (hb hby at_199) rfl (XT.ii_ne_t hc155) (by decide) (by decide)) ?_
              show Done _ p e below s _ _ (T154.setTop (mkF m 227 #[oJ a, .second, oJ b, .second, oI c1, oI c2, oI mode, oI lens, oJ ver1, .second, oI vmo, oJ ver2, .second, oI (2 : Int32), oI (2 : Int32), oI dd, oR x1, oR x2, .unset, .unset, .unset, .unset] []))
              refine Done.step (fun _ => XT.iconstV X154.here hx rfl (0 : Int32) (hb hby at_227) (by decide)) ?_
              show Done _ p e below s _ _ (T154.setTop (mkF m 228 #[oJ a, .second, oJ b, .second, oI c1, oI c2, oI mode, oI lens, oJ ver1, .second, oI vmo, oJ ver2, .second, oI (2 : Int32), oI (2 : Int32), oI dd, oR x1, oR x2, .unset, .unset, .unset, .unset] [(.int (0 : Int32))]))
              refine Done.step (fun _ => XS.istore X154.here hx rfl (hb hby at_228) rfl (l' := #[oJ a, .second, oJ b, .second, oI c1, oI c2, oI mode, oI lens, oJ ver1, .second, oI vmo, oJ ver2, .second, oI (2 : Int32), oI (2 : Int32), oI dd, oR x1, oR x2, oI (0 : Int32), .unset, .unset, .unset]) rfl) ?_
              show Done _ p e below s _ _ (T154.setTop (mkF m 230 #[oJ a, .second, oJ b, .second, oI c1, oI c2, oI mode, oI lens, oJ ver1, .second, oI vmo, oJ ver2, .second, oI (2 : Int32), oI (2 : Int32), oI dd, oR x1, oR x2, oI (0 : Int32), .unset, .unset, .unset] []))
              refine Done.step (fun _ => XT.lload X154.here hx rfl (hb hby at_230) rfl) ?_
              show Done _ p e below s _ _ (T154.setTop (mkF m 232 #[oJ a, .second, oJ b, .second, oI c1, oI c2, oI mode, oI lens, oJ ver1, .second, oI vmo, oJ ver2, .second, oI (2 : Int32), oI (2 : Int32), oI dd, oR x1, oR x2, oI (0 : Int32), .unset, .unset, .unset] [(.long ver1)]))
              refine Done.step (fun _ => XT.lload X154.here hx rfl (hb hby at_232) rfl) ?_
              show Done _ p e below s _ _ (T154.setTop (mkF m 234 #[oJ a, .second, oJ b, .second, oI c1, oI c2, oI mode, oI lens, oJ ver1, .second, oI vmo, oJ ver2, .second, oI (2 : Int32), oI (2 : Int32), oI dd, oR x1, oR x2, oI (0 : Int32), .unset, .unset, .unset] [(.long ver2), (.long ver1)]))
              refine Done.step (fun _ => XT.lcmp X154.here hx rfl (hb hby at_234) rfl) ?_
              show Done _ p e below s _ _ (T154.setTop (mkF m 235 #[oJ a, .second, oJ b, .second, oI c1, oI c2, oI mode, oI lens, oJ ver1, .second, oI vmo, oJ ver2, .second, oI (2 : Int32), oI (2 : Int32), oI dd, oR x1, oR x2, oI (0 : Int32), .unset, .unset, .unset] [(.int (XT.cmpL ver1 ver2))]))
              by_cases hc167 : ver1 = ver2
              · refine Done.step (fun _ => XS.ifNo X154.here hx rfl (hb hby at_235) rfl (XT.ll_ne_f hc167)) ?_
                show Done _ p e below s _ _ (T154.setTop (mkF m 238 #[oJ a, .second, oJ b, .second, oI c1, oI c2, oI mode, oI lens, oJ ver1, .second, oI vmo, oJ ver2, .second, oI (2 : Int32), oI (2 : Int32), oI dd, oR x1, oR x2, oI (0 : Int32), .unset, .unset, .unset] []))
                refine Done.step (fun _ => XS.iload X154.here hx rfl (hb hby at_238) rfl) ?_
                show Done _ p e below s _ _ (T154.setTop (mkF m 240 #[oJ a, .second, oJ b, .second, oI c1, oI c2, oI mode, oI lens, oJ ver1, .second, oI vmo, oJ ver2, .second, oI (2 : Int32), oI (2 : Int32), oI dd, oR x1, oR x2, oI (0 : Int32), .unset, .unset, .unset] [(.int (0 : Int32))]))
                refine Done.step (fun _ => XS.ifYes X154.here hx rfl (pc0 := 240) (pc' := 247) rfl (hb hby at_240) rfl (XT.i0_eq_t rfl) (by decide) (by decide)) ?_
                show Done _ p e below s _ _ (T154.setTop (mkF m 247 #[oJ a, .second, oJ b, .second, oI c1, oI c2, oI mode, oI lens, oJ ver1, .second, oI vmo, oJ ver2, .second, oI (2 : Int32), oI (2 : Int32), oI dd, oR x1, oR x2, oI (0 : Int32), .unset, .unset, .unset] []))
                refine Done.step (fun _ => XT.iconstV X154.here hx rfl (0 : Int32) (hb hby at_247) (by decide)) ?_
                show Done _ p e below s _ _ (T154.setTop (mkF m 248 #[oJ a, .second, oJ b, .second, oI c1, oI c2, oI mode, oI lens, oJ ver1, .second, oI vmo, oJ ver2, .second, oI (2 : Int32), oI (2 : Int32), oI dd, oR x1, oR x2, oI (0 : Int32), .unset, .unset, .unset] [(.int (0 : Int32))]))
                refine Done.step (fun _ => XS.istore X154.here hx rfl (hb hby at_248) rfl (l' := #[oJ a, .second, oJ b, .second, oI c1, oI c2, oI mode, oI lens, oJ ver1, .second, oI vmo, oJ ver2, .second, oI (2 : Int32), oI (2 : Int32), oI dd, oR x1, oR x2, oI (0 : Int32), oI (0 : Int32), .unset, .unset]) rfl) ?_
                show Done _ p e below s _ _ (T154.setTop (mkF m 250 #[oJ a, .second, oJ b, .second, oI c1, oI c2, oI mode, oI lens, oJ ver1, .second, oI vmo, oJ ver2, .second, oI (2 : Int32), oI (2 : Int32), oI dd, oR x1, oR x2, oI (0 : Int32), oI (0 : Int32), .unset, .unset] []))
                have f168 := (f148.keep K149q all0)
                have f169 := (Em1.keep K149q)
                have f170 := (Vm1.keep K149q nin0)
                have f171 := (Cm1.keep K149q nin0)
                have f172 := (Km1.keep K149q nin0)
                exact tl250 Z a0 hw a b ver1 ver2 c1 c2 mode lens vmo (2 : Int32) (2 : Int32) dd (0 : Int32) (0 : Int32) x1 t1 kb1 ([own_ch c1 (0 : Int32), own_ch c1 (1 : Int32)] : List Int32) x2 t2 kb2 ([own_ch dd (0 : Int32), own_ch dd (1 : Int32)] : List Int32) z fm T149.heap n0 Zs149 f168 SC hz SF rF f169 f170 f171 f172 Em2 Vm2 Cm2 Km2 (fun c hc => (List.mem_cons.mp hc).elim (fun e => e ▸ own_chb c1 (0 : Int32)) ((fun c hc => (List.mem_cons.mp hc).elim (fun e => e ▸ own_chb c1 (1 : Int32)) ((fun c hc => absurd hc List.not_mem_nil) c)) c)) (Nat.le_of_ble_eq_true rfl) (fun c hc => (List.mem_cons.mp hc).elim (fun e => e ▸ own_chb dd (0 : Int32)) ((fun c hc => (List.mem_cons.mp hc).elim (fun e => e ▸ own_chb dd (1 : Int32)) ((fun c hc => absurd hc List.not_mem_nil) c)) c)) (Nat.le_of_ble_eq_true rfl) hv1 hv2 (bP_f (fun q => hc155 ((own_L2 _ _ _ _).mp q.2).2)).symm hx hby hml hown hret hlk hZ hS hk e154 (X154.mono (by decide) (by decide)) N149
              · refine Done.step (fun _ => XS.ifYes X154.here hx rfl (pc0 := 235) (pc' := 247) rfl (hb hby at_235) rfl (XT.ll_ne_t hc167) (by decide) (by decide)) ?_
                show Done _ p e below s _ _ (T154.setTop (mkF m 247 #[oJ a, .second, oJ b, .second, oI c1, oI c2, oI mode, oI lens, oJ ver1, .second, oI vmo, oJ ver2, .second, oI (2 : Int32), oI (2 : Int32), oI dd, oR x1, oR x2, oI (0 : Int32), .unset, .unset, .unset] []))
                refine Done.step (fun _ => XT.iconstV X154.here hx rfl (0 : Int32) (hb hby at_247) (by decide)) ?_
                show Done _ p e below s _ _ (T154.setTop (mkF m 248 #[oJ a, .second, oJ b, .second, oI c1, oI c2, oI mode, oI lens, oJ ver1, .second, oI vmo, oJ ver2, .second, oI (2 : Int32), oI (2 : Int32), oI dd, oR x1, oR x2, oI (0 : Int32), .unset, .unset, .unset] [(.int (0 : Int32))]))
                refine Done.step (fun _ => XS.istore X154.here hx rfl (hb hby at_248) rfl (l' := #[oJ a, .second, oJ b, .second, oI c1, oI c2, oI mode, oI lens, oJ ver1, .second, oI vmo, oJ ver2, .second, oI (2 : Int32), oI (2 : Int32), oI dd, oR x1, oR x2, oI (0 : Int32), oI (0 : Int32), .unset, .unset]) rfl) ?_
                show Done _ p e below s _ _ (T154.setTop (mkF m 250 #[oJ a, .second, oJ b, .second, oI c1, oI c2, oI mode, oI lens, oJ ver1, .second, oI vmo, oJ ver2, .second, oI (2 : Int32), oI (2 : Int32), oI dd, oR x1, oR x2, oI (0 : Int32), oI (0 : Int32), .unset, .unset] []))
                have f173 := (f148.keep K149q all0)
                have f174 := (Em1.keep K149q)
                have f175 := (Vm1.keep K149q nin0)
                have f176 := (Cm1.keep K149q nin0)
                have f177 := (Km1.keep K149q nin0)
                exact tl250 Z a0 hw a b ver1 ver2 c1 c2 mode lens vmo (2 : Int32) (2 : Int32) dd (0 : Int32) (0 : Int32) x1 t1 kb1 ([own_ch c1 (0 : Int32), own_ch c1 (1 : Int32)] : List Int32) x2 t2 kb2 ([own_ch dd (0 : Int32), own_ch dd (1 : Int32)] : List Int32) z fm T149.heap n0 Zs149 f173 SC hz SF rF f174 f175 f176 f177 Em2 Vm2 Cm2 Km2 (fun c hc => (List.mem_cons.mp hc).elim (fun e => e ▸ own_chb c1 (0 : Int32)) ((fun c hc => (List.mem_cons.mp hc).elim (fun e => e ▸ own_chb c1 (1 : Int32)) ((fun c hc => absurd hc List.not_mem_nil) c)) c)) (Nat.le_of_ble_eq_true rfl) (fun c hc => (List.mem_cons.mp hc).elim (fun e => e ▸ own_chb dd (0 : Int32)) ((fun c hc => (List.mem_cons.mp hc).elim (fun e => e ▸ own_chb dd (1 : Int32)) ((fun c hc => absurd hc List.not_mem_nil) c)) c)) (Nat.le_of_ble_eq_true rfl) hv1 hv2 (bP_f (fun q => hc167 q.1.symm)).symm hx hby hml hown hret hlk hZ hS hk e154 (X154.mono (by decide) (by decide)) N149
          · refine Done.step (fun _ => XS.icmpYes X151.here hx rfl (pc0 := 178) (pc' := 227) rfl (hb hby at_178) rfl (XT.ii_ne_t hc152) (by decide) (by decide)) ?_
            show Done _ p e below s _ _ (T151.setTop (mkF m 227 #[oJ a, .second, oJ b, .second, oI c1, oI c2, oI mode, oI lens, oJ ver1, .second, oI vmo, oJ ver2, .second, oI (2 : Int32), oI (2 : Int32), oI dd, oR x1, oR x2, .unset, .unset, .unset, .unset] []))
            refine Done.step (fun _ => XT.iconstV X151.here hx rfl (0 : Int32) (hb hby at_227) (by decide)) ?_
            show Done _ p e below s _ _ (T151.setTop (mkF m 228 #[oJ a, .second, oJ b, .second, oI c1, oI c2, oI mode, oI lens, oJ ver1, .second, oI vmo, oJ ver2, .second, oI (2 : Int32), oI (2 : Int32), oI dd, oR x1, oR x2, .unset, .unset, .unset, .unset] [(.int (0 : Int32))]))
            refine Done.step (fun _ => XS.istore X151.here hx rfl (hb hby at_228) rfl (l' := #[oJ a, .second, oJ b, .second, oI c1, oI c2, oI mode, oI lens, oJ ver1, .second, oI vmo, oJ ver2, .second, oI (2 : Int32), oI (2 : Int32), oI dd, oR x1, oR x2, oI (0 : Int32), .unset, .unset, .unset]) rfl) ?_
            show Done _ p e below s _ _ (T151.setTop (mkF m 230 #[oJ a, .second, oJ b, .second, oI c1, oI c2, oI mode, oI lens, oJ ver1, .second, oI vmo, oJ ver2, .second, oI (2 : Int32), oI (2 : Int32), oI dd, oR x1, oR x2, oI (0 : Int32), .unset, .unset, .unset] []))
            refine Done.step (fun _ => XT.lload X151.here hx rfl (hb hby at_230) rfl) ?_
            show Done _ p e below s _ _ (T151.setTop (mkF m 232 #[oJ a, .second, oJ b, .second, oI c1, oI c2, oI mode, oI lens, oJ ver1, .second, oI vmo, oJ ver2, .second, oI (2 : Int32), oI (2 : Int32), oI dd, oR x1, oR x2, oI (0 : Int32), .unset, .unset, .unset] [(.long ver1)]))
            refine Done.step (fun _ => XT.lload X151.here hx rfl (hb hby at_232) rfl) ?_
            show Done _ p e below s _ _ (T151.setTop (mkF m 234 #[oJ a, .second, oJ b, .second, oI c1, oI c2, oI mode, oI lens, oJ ver1, .second, oI vmo, oJ ver2, .second, oI (2 : Int32), oI (2 : Int32), oI dd, oR x1, oR x2, oI (0 : Int32), .unset, .unset, .unset] [(.long ver2), (.long ver1)]))
            refine Done.step (fun _ => XT.lcmp X151.here hx rfl (hb hby at_234) rfl) ?_
            show Done _ p e below s _ _ (T151.setTop (mkF m 235 #[oJ a, .second, oJ b, .second, oI c1, oI c2, oI mode, oI lens, oJ ver1, .second, oI vmo, oJ ver2, .second, oI (2 : Int32), oI (2 : Int32), oI dd, oR x1, oR x2, oI (0 : Int32), .unset, .unset, .unset] [(.int (XT.cmpL ver1 ver2))]))
            by_cases hc178 : ver1 = ver2
            · refine Done.step (fun _ => XS.ifNo X151.here hx rfl (hb hby at_235) rfl (XT.ll_ne_f hc178)) ?_
              show Done _ p e below s _ _ (T151.setTop (mkF m 238 #[oJ a, .second, oJ b, .second, oI c1, oI c2, oI mode, oI lens, oJ ver1, .second, oI vmo, oJ ver2, .second, oI (2 : Int32), oI (2 : Int32), oI dd, oR x1, oR x2, oI (0 : Int32), .unset, .unset, .unset] []))
              refine Done.step (fun _ => XS.iload X151.here hx rfl (hb hby at_238) rfl) ?_
              show Done _ p e below s _ _ (T151.setTop (mkF m 240 #[oJ a, .second, oJ b, .second, oI c1, oI c2, oI mode, oI lens, oJ ver1, .second, oI vmo, oJ ver2, .second, oI (2 : Int32), oI (2 : Int32), oI dd, oR x1, oR x2, oI (0 : Int32), .unset, .unset, .unset] [(.int (0 : Int32))]))
              refine Done.step (fun _ => XS.ifYes X151.here hx rfl (pc0 := 240) (pc' := 247) rfl (hb hby at_240) rfl (XT.i0_eq_t rfl) (by decide) (by decide)) ?_
              show Done _ p e below s _ _ (T151.setTop (mkF m 247 #[oJ a, .second, oJ b, .second, oI c1, oI c2, oI mode, oI lens, oJ ver1, .second, oI vmo, oJ ver2, .second, oI (2 : Int32), oI (2 : Int32), oI dd, oR x1, oR x2, oI (0 : Int32), .unset, .unset, .unset] []))
              refine Done.step (fun _ => XT.iconstV X151.here hx rfl (0 : Int32) (hb hby at_247) (by decide)) ?_
              show Done _ p e below s _ _ (T151.setTop (mkF m 248 #[oJ a, .second, oJ b, .second, oI c1, oI c2, oI mode, oI lens, oJ ver1, .second, oI vmo, oJ ver2, .second, oI (2 : Int32), oI (2 : Int32), oI dd, oR x1, oR x2, oI (0 : Int32), .unset, .unset, .unset] [(.int (0 : Int32))]))
              refine Done.step (fun _ => XS.istore X151.here hx rfl (hb hby at_248) rfl (l' := #[oJ a, .second, oJ b, .second, oI c1, oI c2, oI mode, oI lens, oJ ver1, .second, oI vmo, oJ ver2, .second, oI (2 : Int32), oI (2 : Int32), oI dd, oR x1, oR x2, oI (0 : Int32), oI (0 : Int32), .unset, .unset]) rfl) ?_
              show Done _ p e below s _ _ (T151.setTop (mkF m 250 #[oJ a, .second, oJ b, .second, oI c1, oI c2, oI mode, oI lens, oJ ver1, .second, oI vmo, oJ ver2, .second, oI (2 : Int32), oI (2 : Int32), oI dd, oR x1, oR x2, oI (0 : Int32), oI (0 : Int32), .unset, .unset] []))
              have f179 := (f148.keep K149q all0)
              have f180 := (Em1.keep K149q)
              have f181 := (Vm1.keep K149q nin0)
              have f182 := (Cm1.keep K149q nin0)
              have f183 := (Km1.keep K149q nin0)
              exact tl250 Z a0 hw a b ver1 ver2 c1 c2 mode lens vmo (2 : Int32) (2 : Int32) dd (0 : Int32) (0 : Int32) x1 t1 kb1 ([own_ch c1 (0 : Int32), own_ch c1 (1 : Int32)] : List Int32) x2 t2 kb2 ([own_ch dd (0 : Int32), own_ch dd (1 : Int32)] : List Int32) z fm T149.heap n0 Zs149 f179 SC hz SF rF f180 f181 f182 f183 Em2 Vm2 Cm2 Km2 (fun c hc => (List.mem_cons.mp hc).elim (fun e => e ▸ own_chb c1 (0 : Int32)) ((fun c hc => (List.mem_cons.mp hc).elim (fun e => e ▸ own_chb c1 (1 : Int32)) ((fun c hc => absurd hc List.not_mem_nil) c)) c)) (Nat.le_of_ble_eq_true rfl) (fun c hc => (List.mem_cons.mp hc).elim (fun e => e ▸ own_chb dd (0 : Int32)) ((fun c hc => (List.mem_cons.mp hc).elim (fun e => e ▸ own_chb dd (1 : Int32)) ((fun c hc => absurd hc List.not_mem_nil) c)) c)) (Nat.le_of_ble_eq_true rfl) hv1 hv2 (bP_f (fun q => hc152 ((own_L2 _ _ _ _).mp q.2).1)).symm hx hby hml hown hret hlk hZ hS hk e151 (X151.mono (by decide) (by decide)) N149
            · refine Done.step (fun _ => XS.ifYes X151.here hx rfl (pc0 := 235) (pc' := 247) rfl (hb hby at_235) rfl (XT.ll_ne_t hc178) (by decide) (by decide)) ?_
              show Done _ p e below s _ _ (T151.setTop (mkF m 247 #[oJ a, .second, oJ b, .second, oI c1, oI c2, oI mode, oI lens, oJ ver1, .second, oI vmo, oJ ver2, .second, oI (2 : Int32), oI (2 : Int32), oI dd, oR x1, oR x2, oI (0 : Int32), .unset, .unset, .unset] []))
              refine Done.step (fun _ => XT.iconstV X151.here hx rfl (0 : Int32) (hb hby at_247) (by decide)) ?_
              show Done _ p e below s _ _ (T151.setTop (mkF m 248 #[oJ a, .second, oJ b, .second, oI c1, oI c2, oI mode, oI lens, oJ ver1, .second, oI vmo, oJ ver2, .second, oI (2 : Int32), oI (2 : Int32), oI dd, oR x1, oR x2, oI (0 : Int32), .unset, .unset, .unset] [(.int (0 : Int32))]))
              refine Done.step (fun _ => XS.istore X151.here hx rfl (hb hby at_248) rfl (l' := #[oJ a, .second, oJ b, .second, oI c1, oI c2, oI mode, oI lens, oJ ver1, .second, oI vmo, oJ ver2, .second, oI (2 : Int32), oI (2 : Int32), oI dd, oR x1, oR x2, oI (0 : Int32), oI (0 : Int32), .unset, .unset]) rfl) ?_
              show Done _ p e below s _ _ (T151.setTop (mkF m 250 #[oJ a, .second, oJ b, .second, oI c1, oI c2, oI mode, oI lens, oJ ver1, .second, oI vmo, oJ ver2, .second, oI (2 : Int32), oI (2 : Int32), oI dd, oR x1, oR x2, oI (0 : Int32), oI (0 : Int32), .unset, .unset] []))
              have f184 := (f148.keep K149q all0)
              have f185 := (Em1.keep K149q)
              have f186 := (Vm1.keep K149q nin0)
              have f187 := (Cm1.keep K149q nin0)
              have f188 := (Km1.keep K149q nin0)
              exact tl250 Z a0 hw a b ver1 ver2 c1 c2 mode lens vmo (2 : Int32) (2 : Int32) dd (0 : Int32) (0 : Int32) x1 t1 kb1 ([own_ch c1 (0 : Int32), own_ch c1 (1 : Int32)] : List Int32) x2 t2 kb2 ([own_ch dd (0 : Int32), own_ch dd (1 : Int32)] : List Int32) z fm T149.heap n0 Zs149 f184 SC hz SF rF f185 f186 f187 f188 Em2 Vm2 Cm2 Km2 (fun c hc => (List.mem_cons.mp hc).elim (fun e => e ▸ own_chb c1 (0 : Int32)) ((fun c hc => (List.mem_cons.mp hc).elim (fun e => e ▸ own_chb c1 (1 : Int32)) ((fun c hc => absurd hc List.not_mem_nil) c)) c)) (Nat.le_of_ble_eq_true rfl) (fun c hc => (List.mem_cons.mp hc).elim (fun e => e ▸ own_chb dd (0 : Int32)) ((fun c hc => (List.mem_cons.mp hc).elim (fun e => e ▸ own_chb dd (1 : Int32)) ((fun c hc => absurd hc List.not_mem_nil) c)) c)) (Nat.le_of_ble_eq_true rfl) hv1 hv2 (bP_f (fun q => hc178 q.1.symm)).symm hx hby hml hown hret hlk hZ hS hk e151 (X151.mono (by decide) (by decide)) N149
        · rw [hv]
          show Done _ p e below s _ _ (T121.setTop (mkF m 144 #[oJ a, .second, oJ b, .second, oI c1, oI c2, oI mode, oI lens, oJ ver1, .second, oI vmo, oJ ver2, .second, oI (2 : Int32), oI (3 : Int32), oI dd, oR x1, .unset, .unset, .unset, .unset, .unset] []))
          refine Done.step (fun _ => XS.iload X121.here hx rfl (hb hby at_144) rfl) ?_
          show Done _ p e below s _ _ (T121.setTop (mkF m 146 #[oJ a, .second, oJ b, .second, oI c1, oI c2, oI mode, oI lens, oJ ver1, .second, oI vmo, oJ ver2, .second, oI (2 : Int32), oI (3 : Int32), oI dd, oR x1, .unset, .unset, .unset, .unset, .unset] [(.int (3 : Int32))]))
          refine Done.step (fun _ => XS.iload X121.here hx rfl (hb hby at_146) rfl) ?_
          show Done _ p e below s _ _ (T121.setTop (mkF m 148 #[oJ a, .second, oJ b, .second, oI c1, oI c2, oI mode, oI lens, oJ ver1, .second, oI vmo, oJ ver2, .second, oI (2 : Int32), oI (3 : Int32), oI dd, oR x1, .unset, .unset, .unset, .unset, .unset] [(.int dd), (.int (3 : Int32))]))
          have f189 := (O0.keep K121q all0)
          refine Done.callS X121 hx hZ hown (wAt hw 5 rfl) (wAt hw 6 rfl) (wAt hw 7 rfl) (wAt hw 8 rfl) (by decide) (rmM3 l Z a0 hw [] dd z T121.heap n0 Zs121 f189 SC hz) (fun _ _ => trivial) rfl (g := (mkF m 148 #[oJ a, .second, oJ b, .second, oI c1, oI c2, oI mode, oI lens, oJ ver1, .second, oI vmo, oJ ver2, .second, oI (2 : Int32), oI (3 : Int32), oI dd, oR x1, .unset, .unset, .unset, .unset, .unset] [(.int dd), (.int (3 : Int32))])) rfl (by rw [hml]; rfl) [(.int (3 : Int32)), (.int dd)] [] 0 (lenOf pd_13 rfl) rfl rfl (by show 2 * 0 + _ ≤ _; exact Nat.le_of_eq rfl) (hb hby at_148) (by decide) (by decide) (by decide) (by decide) ?_
          intro T190 v190 L190 X190 q190
          obtain ⟨x2, t2, kb2, rfl, Nq190, K190q, Em2, Vm2, Cm2, Km2⟩ := q190
          have N190 := Fr.app N121 Nq190
          have Zs190 := Nat.le_trans Zs121 K190q.1
          have hk := Nat.le_trans hk K190q.1
          show Done _ p e below s _ _ (T190.setTop (mkF m 151 #[oJ a, .second, oJ b, .second, oI c1, oI c2, oI mode, oI lens, oJ ver1, .second, oI vmo, oJ ver2, .second, oI (2 : Int32), oI (3 : Int32), oI dd, oR x1, .unset, .unset, .unset, .unset, .unset] [(.ref x2)]))
          refine Done.step (fun _ => XS.astore X190.here hx rfl (hb hby at_151) rfl rfl (l' := #[oJ a, .second, oJ b, .second, oI c1, oI c2, oI mode, oI lens, oJ ver1, .second, oI vmo, oJ ver2, .second, oI (2 : Int32), oI (3 : Int32), oI dd, oR x1, oR x2, .unset, .unset, .unset, .unset]) rfl) ?_
          show Done _ p e below s _ _ (T190.setTop (mkF m 153 #[oJ a, .second, oJ b, .second, oI c1, oI c2, oI mode, oI lens, oJ ver1, .second, oI vmo, oJ ver2, .second, oI (2 : Int32), oI (3 : Int32), oI dd, oR x1, oR x2, .unset, .unset, .unset, .unset] []))
          refine Done.step (fun _ => XS.iload X190.here hx rfl (hb hby at_153) rfl) ?_
          show Done _ p e below s _ _ (T190.setTop (mkF m 155 #[oJ a, .second, oJ b, .second, oI c1, oI c2, oI mode, oI lens, oJ ver1, .second, oI vmo, oJ ver2, .second, oI (2 : Int32), oI (3 : Int32), oI dd, oR x1, oR x2, .unset, .unset, .unset, .unset] [(.int (2 : Int32))]))
          refine Done.step (fun _ => XS.iload X190.here hx rfl (hb hby at_155) rfl) ?_
          show Done _ p e below s _ _ (T190.setTop (mkF m 157 #[oJ a, .second, oJ b, .second, oI c1, oI c2, oI mode, oI lens, oJ ver1, .second, oI vmo, oJ ver2, .second, oI (2 : Int32), oI (3 : Int32), oI dd, oR x1, oR x2, .unset, .unset, .unset, .unset] [(.int (3 : Int32)), (.int (2 : Int32))]))
          refine Done.step (fun _ => XS.icmpYes X190.here hx rfl (pc0 := 157) (pc' := 227) rfl (hb hby at_157) rfl (XT.ii_ne_t (by decide)) (by decide) (by decide)) ?_
          show Done _ p e below s _ _ (T190.setTop (mkF m 227 #[oJ a, .second, oJ b, .second, oI c1, oI c2, oI mode, oI lens, oJ ver1, .second, oI vmo, oJ ver2, .second, oI (2 : Int32), oI (3 : Int32), oI dd, oR x1, oR x2, .unset, .unset, .unset, .unset] []))
          refine Done.step (fun _ => XT.iconstV X190.here hx rfl (0 : Int32) (hb hby at_227) (by decide)) ?_
          show Done _ p e below s _ _ (T190.setTop (mkF m 228 #[oJ a, .second, oJ b, .second, oI c1, oI c2, oI mode, oI lens, oJ ver1, .second, oI vmo, oJ ver2, .second, oI (2 : Int32), oI (3 : Int32), oI dd, oR x1, oR x2, .unset, .unset, .unset, .unset] [(.int (0 : Int32))]))
          refine Done.step (fun _ => XS.istore X190.here hx rfl (hb hby at_228) rfl (l' := #[oJ a, .second, oJ b, .second, oI c1, oI c2, oI mode, oI lens, oJ ver1, .second, oI vmo, oJ ver2, .second, oI (2 : Int32), oI (3 : Int32), oI dd, oR x1, oR x2, oI (0 : Int32), .unset, .unset, .unset]) rfl) ?_
          show Done _ p e below s _ _ (T190.setTop (mkF m 230 #[oJ a, .second, oJ b, .second, oI c1, oI c2, oI mode, oI lens, oJ ver1, .second, oI vmo, oJ ver2, .second, oI (2 : Int32), oI (3 : Int32), oI dd, oR x1, oR x2, oI (0 : Int32), .unset, .unset, .unset] []))
          refine Done.step (fun _ => XT.lload X190.here hx rfl (hb hby at_230) rfl) ?_
          show Done _ p e below s _ _ (T190.setTop (mkF m 232 #[oJ a, .second, oJ b, .second, oI c1, oI c2, oI mode, oI lens, oJ ver1, .second, oI vmo, oJ ver2, .second, oI (2 : Int32), oI (3 : Int32), oI dd, oR x1, oR x2, oI (0 : Int32), .unset, .unset, .unset] [(.long ver1)]))
          refine Done.step (fun _ => XT.lload X190.here hx rfl (hb hby at_232) rfl) ?_
          show Done _ p e below s _ _ (T190.setTop (mkF m 234 #[oJ a, .second, oJ b, .second, oI c1, oI c2, oI mode, oI lens, oJ ver1, .second, oI vmo, oJ ver2, .second, oI (2 : Int32), oI (3 : Int32), oI dd, oR x1, oR x2, oI (0 : Int32), .unset, .unset, .unset] [(.long ver2), (.long ver1)]))
          refine Done.step (fun _ => XT.lcmp X190.here hx rfl (hb hby at_234) rfl) ?_
          show Done _ p e below s _ _ (T190.setTop (mkF m 235 #[oJ a, .second, oJ b, .second, oI c1, oI c2, oI mode, oI lens, oJ ver1, .second, oI vmo, oJ ver2, .second, oI (2 : Int32), oI (3 : Int32), oI dd, oR x1, oR x2, oI (0 : Int32), .unset, .unset, .unset] [(.int (XT.cmpL ver1 ver2))]))
          by_cases hc191 : ver1 = ver2
          · refine Done.step (fun _ => XS.ifNo X190.here hx rfl (hb hby at_235) rfl (XT.ll_ne_f hc191)) ?_
            show Done _ p e below s _ _ (T190.setTop (mkF m 238 #[oJ a, .second, oJ b, .second, oI c1, oI c2, oI mode, oI lens, oJ ver1, .second, oI vmo, oJ ver2, .second, oI (2 : Int32), oI (3 : Int32), oI dd, oR x1, oR x2, oI (0 : Int32), .unset, .unset, .unset] []))
            refine Done.step (fun _ => XS.iload X190.here hx rfl (hb hby at_238) rfl) ?_
            show Done _ p e below s _ _ (T190.setTop (mkF m 240 #[oJ a, .second, oJ b, .second, oI c1, oI c2, oI mode, oI lens, oJ ver1, .second, oI vmo, oJ ver2, .second, oI (2 : Int32), oI (3 : Int32), oI dd, oR x1, oR x2, oI (0 : Int32), .unset, .unset, .unset] [(.int (0 : Int32))]))
            refine Done.step (fun _ => XS.ifYes X190.here hx rfl (pc0 := 240) (pc' := 247) rfl (hb hby at_240) rfl (XT.i0_eq_t rfl) (by decide) (by decide)) ?_
            show Done _ p e below s _ _ (T190.setTop (mkF m 247 #[oJ a, .second, oJ b, .second, oI c1, oI c2, oI mode, oI lens, oJ ver1, .second, oI vmo, oJ ver2, .second, oI (2 : Int32), oI (3 : Int32), oI dd, oR x1, oR x2, oI (0 : Int32), .unset, .unset, .unset] []))
            refine Done.step (fun _ => XT.iconstV X190.here hx rfl (0 : Int32) (hb hby at_247) (by decide)) ?_
            show Done _ p e below s _ _ (T190.setTop (mkF m 248 #[oJ a, .second, oJ b, .second, oI c1, oI c2, oI mode, oI lens, oJ ver1, .second, oI vmo, oJ ver2, .second, oI (2 : Int32), oI (3 : Int32), oI dd, oR x1, oR x2, oI (0 : Int32), .unset, .unset, .unset] [(.int (0 : Int32))]))
            refine Done.step (fun _ => XS.istore X190.here hx rfl (hb hby at_248) rfl (l' := #[oJ a, .second, oJ b, .second, oI c1, oI c2, oI mode, oI lens, oJ ver1, .second, oI vmo, oJ ver2, .second, oI (2 : Int32), oI (3 : Int32), oI dd, oR x1, oR x2, oI (0 : Int32), oI (0 : Int32), .unset, .unset]) rfl) ?_
            show Done _ p e below s _ _ (T190.setTop (mkF m 250 #[oJ a, .second, oJ b, .second, oI c1, oI c2, oI mode, oI lens, oJ ver1, .second, oI vmo, oJ ver2, .second, oI (2 : Int32), oI (3 : Int32), oI dd, oR x1, oR x2, oI (0 : Int32), oI (0 : Int32), .unset, .unset] []))
            have f192 := (f189.keep K190q all0)
            have f193 := (Em1.keep K190q)
            have f194 := (Vm1.keep K190q nin0)
            have f195 := (Cm1.keep K190q nin0)
            have f196 := (Km1.keep K190q nin0)
            exact tl250 Z a0 hw a b ver1 ver2 c1 c2 mode lens vmo (2 : Int32) (3 : Int32) dd (0 : Int32) (0 : Int32) x1 t1 kb1 ([own_ch c1 (0 : Int32), own_ch c1 (1 : Int32)] : List Int32) x2 t2 kb2 ([own_ch dd (0 : Int32), own_ch dd (1 : Int32), own_ch dd (2 : Int32)] : List Int32) z fm T190.heap n0 Zs190 f192 SC hz SF rF f193 f194 f195 f196 Em2 Vm2 Cm2 Km2 (fun c hc => (List.mem_cons.mp hc).elim (fun e => e ▸ own_chb c1 (0 : Int32)) ((fun c hc => (List.mem_cons.mp hc).elim (fun e => e ▸ own_chb c1 (1 : Int32)) ((fun c hc => absurd hc List.not_mem_nil) c)) c)) (Nat.le_of_ble_eq_true rfl) (fun c hc => (List.mem_cons.mp hc).elim (fun e => e ▸ own_chb dd (0 : Int32)) ((fun c hc => (List.mem_cons.mp hc).elim (fun e => e ▸ own_chb dd (1 : Int32)) ((fun c hc => (List.mem_cons.mp hc).elim (fun e => e ▸ own_chb dd (2 : Int32)) ((fun c hc => absurd hc List.not_mem_nil) c)) c)) c)) (Nat.le_of_ble_eq_true rfl) hv1 hv2 (bP_f (fun q => by have e := congrArg List.length q.2; simp at e)).symm hx hby hml hown hret hlk hZ hS hk rfl (X190.mono (by decide) (by decide)) N190
          · refine Done.step (fun _ => XS.ifYes X190.here hx rfl (pc0 := 235) (pc' := 247) rfl (hb hby at_235) rfl (XT.ll_ne_t hc191) (by decide) (by decide)) ?_
            show Done _ p e below s _ _ (T190.setTop (mkF m 247 #[oJ a, .second, oJ b, .second, oI c1, oI c2, oI mode, oI lens, oJ ver1, .second, oI vmo, oJ ver2, .second, oI (2 : Int32), oI (3 : Int32), oI dd, oR x1, oR x2, oI (0 : Int32), .unset, .unset, .unset] []))
            refine Done.step (fun _ => XT.iconstV X190.here hx rfl (0 : Int32) (hb hby at_247) (by decide)) ?_
            show Done _ p e below s _ _ (T190.setTop (mkF m 248 #[oJ a, .second, oJ b, .second, oI c1, oI c2, oI mode, oI lens, oJ ver1, .second, oI vmo, oJ ver2, .second, oI (2 : Int32), oI (3 : Int32), oI dd, oR x1, oR x2, oI (0 : Int32), .unset, .unset, .unset] [(.int (0 : Int32))]))
            refine Done.step (fun _ => XS.istore X190.here hx rfl (hb hby at_248) rfl (l' := #[oJ a, .second, oJ b, .second, oI c1, oI c2, oI mode, oI lens, oJ ver1, .second, oI vmo, oJ ver2, .second, oI (2 : Int32), oI (3 : Int32), oI dd, oR x1, oR x2, oI (0 : Int32), oI (0 : Int32), .unset, .unset]) rfl) ?_
            show Done _ p e below s _ _ (T190.setTop (mkF m 250 #[oJ a, .second, oJ b, .second, oI c1, oI c2, oI mode, oI lens, oJ ver1, .second, oI vmo, oJ ver2, .second, oI (2 : Int32), oI (3 : Int32), oI dd, oR x1, oR x2, oI (0 : Int32), oI (0 : Int32), .unset, .unset] []))
            have f197 := (f189.keep K190q all0)
            have f198 := (Em1.keep K190q)
            have f199 := (Vm1.keep K190q nin0)
            have f200 := (Cm1.keep K190q nin0)
            have f201 := (Km1.keep K190q nin0)
            exact tl250 Z a0 hw a b ver1 ver2 c1 c2 mode lens vmo (2 : Int32) (3 : Int32) dd (0 : Int32) (0 : Int32) x1 t1 kb1 ([own_ch c1 (0 : Int32), own_ch c1 (1 : Int32)] : List Int32) x2 t2 kb2 ([own_ch dd (0 : Int32), own_ch dd (1 : Int32), own_ch dd (2 : Int32)] : List Int32) z fm T190.heap n0 Zs190 f197 SC hz SF rF f198 f199 f200 f201 Em2 Vm2 Cm2 Km2 (fun c hc => (List.mem_cons.mp hc).elim (fun e => e ▸ own_chb c1 (0 : Int32)) ((fun c hc => (List.mem_cons.mp hc).elim (fun e => e ▸ own_chb c1 (1 : Int32)) ((fun c hc => absurd hc List.not_mem_nil) c)) c)) (Nat.le_of_ble_eq_true rfl) (fun c hc => (List.mem_cons.mp hc).elim (fun e => e ▸ own_chb dd (0 : Int32)) ((fun c hc => (List.mem_cons.mp hc).elim (fun e => e ▸ own_chb dd (1 : Int32)) ((fun c hc => (List.mem_cons.mp hc).elim (fun e => e ▸ own_chb dd (2 : Int32)) ((fun c hc => absurd hc List.not_mem_nil) c)) c)) c)) (Nat.le_of_ble_eq_true rfl) hv1 hv2 (bP_f (fun q => hc191 q.1.symm)).symm hx hby hml hown hret hlk hZ hS hk rfl (X190.mono (by decide) (by decide)) N190
      · rw [hv]
        show Done _ p e below s _ _ (TL.setTop (mkF m 137 #[oJ a, .second, oJ b, .second, oI c1, oI c2, oI mode, oI lens, oJ ver1, .second, oI vmo, oJ ver2, .second, oI (3 : Int32), oI le2, oI dd, .unset, .unset, .unset, .unset, .unset, .unset] [(.int (3 : Int32))]))
        refine Done.step (fun _ => XS.iload XL.here hx rfl (hb hby at_137) rfl) ?_
        show Done _ p e below s _ _ (TL.setTop (mkF m 139 #[oJ a, .second, oJ b, .second, oI c1, oI c2, oI mode, oI lens, oJ ver1, .second, oI vmo, oJ ver2, .second, oI (3 : Int32), oI le2, oI dd, .unset, .unset, .unset, .unset, .unset, .unset] [(.int c1), (.int (3 : Int32))]))
        refine Done.callS XL hx hZ hown (wAt hw 5 rfl) (wAt hw 6 rfl) (wAt hw 7 rfl) (wAt hw 8 rfl) (by decide) (rmM3 l Z a0 hw [] c1 z h0 n0 Z0 O0 SC hz) (fun _ _ => trivial) eL (g := (mkF m 139 #[oJ a, .second, oJ b, .second, oI c1, oI c2, oI mode, oI lens, oJ ver1, .second, oI vmo, oJ ver2, .second, oI (3 : Int32), oI le2, oI dd, .unset, .unset, .unset, .unset, .unset, .unset] [(.int c1), (.int (3 : Int32))])) rfl (by rw [hml]; rfl) [(.int (3 : Int32)), (.int c1)] [] 0 (lenOf pd_13 rfl) rfl rfl (by show 2 * 0 + _ ≤ _; exact Nat.le_of_eq rfl) (hb hby at_139) (by decide) (by decide) (by decide) (by decide) ?_
        intro T202 v202 L202 X202 q202
        obtain ⟨x1, t1, kb1, rfl, Nq202, K202q, Em1, Vm1, Cm1, Km1⟩ := q202
        have N202 := Fr.app N0 Nq202
        have Zs202 := Nat.le_trans Z0 K202q.1
        have hk := Nat.le_trans hk K202q.1
        show Done _ p e below s _ _ (T202.setTop (mkF m 142 #[oJ a, .second, oJ b, .second, oI c1, oI c2, oI mode, oI lens, oJ ver1, .second, oI vmo, oJ ver2, .second, oI (3 : Int32), oI le2, oI dd, .unset, .unset, .unset, .unset, .unset, .unset] [(.ref x1)]))
        refine Done.step (fun _ => XS.astore X202.here hx rfl (hb hby at_142) rfl rfl (l' := #[oJ a, .second, oJ b, .second, oI c1, oI c2, oI mode, oI lens, oJ ver1, .second, oI vmo, oJ ver2, .second, oI (3 : Int32), oI le2, oI dd, oR x1, .unset, .unset, .unset, .unset, .unset]) rfl) ?_
        show Done _ p e below s _ _ (T202.setTop (mkF m 144 #[oJ a, .second, oJ b, .second, oI c1, oI c2, oI mode, oI lens, oJ ver1, .second, oI vmo, oJ ver2, .second, oI (3 : Int32), oI le2, oI dd, oR x1, .unset, .unset, .unset, .unset, .unset] []))
        rcases hl2 with hv | hv | hv | hv
        · rw [hv]
          show Done _ p e below s _ _ (T202.setTop (mkF m 144 #[oJ a, .second, oJ b, .second, oI c1, oI c2, oI mode, oI lens, oJ ver1, .second, oI vmo, oJ ver2, .second, oI (3 : Int32), oI (0 : Int32), oI dd, oR x1, .unset, .unset, .unset, .unset, .unset] []))
          refine Done.step (fun _ => XS.iload X202.here hx rfl (hb hby at_144) rfl) ?_
          show Done _ p e below s _ _ (T202.setTop (mkF m 146 #[oJ a, .second, oJ b, .second, oI c1, oI c2, oI mode, oI lens, oJ ver1, .second, oI vmo, oJ ver2, .second, oI (3 : Int32), oI (0 : Int32), oI dd, oR x1, .unset, .unset, .unset, .unset, .unset] [(.int (0 : Int32))]))
          refine Done.step (fun _ => XS.iload X202.here hx rfl (hb hby at_146) rfl) ?_
          show Done _ p e below s _ _ (T202.setTop (mkF m 148 #[oJ a, .second, oJ b, .second, oI c1, oI c2, oI mode, oI lens, oJ ver1, .second, oI vmo, oJ ver2, .second, oI (3 : Int32), oI (0 : Int32), oI dd, oR x1, .unset, .unset, .unset, .unset, .unset] [(.int dd), (.int (0 : Int32))]))
          have f203 := (O0.keep K202q all0)
          refine Done.callSW X202 hx hZ hown hS hk (wAt hw 5 rfl) (wAt hw 6 rfl) (wAt hw 7 rfl) (wAt hw 8 rfl) (by decide) (rmM0 l Z a0 hw [] dd z T202.heap n0 Zs202 f203 SC hz hh hcw) (fun vm' hW => own_ibV hV hW) rfl (g := (mkF m 148 #[oJ a, .second, oJ b, .second, oI c1, oI c2, oI mode, oI lens, oJ ver1, .second, oI vmo, oJ ver2, .second, oI (3 : Int32), oI (0 : Int32), oI dd, oR x1, .unset, .unset, .unset, .unset, .unset] [(.int dd), (.int (0 : Int32))])) rfl (by rw [hml]; rfl) [(.int (0 : Int32)), (.int dd)] [] 0 (lenOf pd_13 rfl) rfl rfl (by show 2 * 0 + _ ≤ _; exact Nat.le_of_eq rfl) (hb hby at_148) (by decide) (by decide) (by decide) (by decide) ?_
          intro T204 v204 L204 X204 hS hZ hown hW204 q204
          have hk := Nat.le_refl T204.heap.size
          obtain ⟨x2, rfl, Nq204, K204q, aa, bb, kk, LT, FA1, FA2, FB, Em2, Vm2, Cm2⟩ := q204
          have N204 := Fr.app N202 Nq204
          have Zs204 := Nat.le_trans Zs202 K204q.1
          show Done _ p e below s _ _ (T204.setTop (mkF m 151 #[oJ a, .second, oJ b, .second, oI c1, oI c2, oI mode, oI lens, oJ ver1, .second, oI vmo, oJ ver2, .second, oI (3 : Int32), oI (0 : Int32), oI dd, oR x1, .unset, .unset, .unset, .unset, .unset] [(.ref x2)]))
          refine Done.step (fun _ => XS.astore X204.here hx rfl (hb hby at_151) rfl rfl (l' := #[oJ a, .second, oJ b, .second, oI c1, oI c2, oI mode, oI lens, oJ ver1, .second, oI vmo, oJ ver2, .second, oI (3 : Int32), oI (0 : Int32), oI dd, oR x1, oR x2, .unset, .unset, .unset, .unset]) rfl) ?_
          show Done _ p e below s _ _ (T204.setTop (mkF m 153 #[oJ a, .second, oJ b, .second, oI c1, oI c2, oI mode, oI lens, oJ ver1, .second, oI vmo, oJ ver2, .second, oI (3 : Int32), oI (0 : Int32), oI dd, oR x1, oR x2, .unset, .unset, .unset, .unset] []))
          refine Done.step (fun _ => XS.iload X204.here hx rfl (hb hby at_153) rfl) ?_
          show Done _ p e below s _ _ (T204.setTop (mkF m 155 #[oJ a, .second, oJ b, .second, oI c1, oI c2, oI mode, oI lens, oJ ver1, .second, oI vmo, oJ ver2, .second, oI (3 : Int32), oI (0 : Int32), oI dd, oR x1, oR x2, .unset, .unset, .unset, .unset] [(.int (3 : Int32))]))
          refine Done.step (fun _ => XS.iload X204.here hx rfl (hb hby at_155) rfl) ?_
          show Done _ p e below s _ _ (T204.setTop (mkF m 157 #[oJ a, .second, oJ b, .second, oI c1, oI c2, oI mode, oI lens, oJ ver1, .second, oI vmo, oJ ver2, .second, oI (3 : Int32), oI (0 : Int32), oI dd, oR x1, oR x2, .unset, .unset, .unset, .unset] [(.int (0 : Int32)), (.int (3 : Int32))]))
          refine Done.step (fun _ => XS.icmpYes X204.here hx rfl (pc0 := 157) (pc' := 227) rfl (hb hby at_157) rfl (XT.ii_ne_t (by decide)) (by decide) (by decide)) ?_
          show Done _ p e below s _ _ (T204.setTop (mkF m 227 #[oJ a, .second, oJ b, .second, oI c1, oI c2, oI mode, oI lens, oJ ver1, .second, oI vmo, oJ ver2, .second, oI (3 : Int32), oI (0 : Int32), oI dd, oR x1, oR x2, .unset, .unset, .unset, .unset] []))
          refine Done.step (fun _ => XT.iconstV X204.here hx rfl (0 : Int32) (hb hby at_227) (by decide)) ?_
          show Done _ p e below s _ _ (T204.setTop (mkF m 228 #[oJ a, .second, oJ b, .second, oI c1, oI c2, oI mode, oI lens, oJ ver1, .second, oI vmo, oJ ver2, .second, oI (3 : Int32), oI (0 : Int32), oI dd, oR x1, oR x2, .unset, .unset, .unset, .unset] [(.int (0 : Int32))]))
          refine Done.step (fun _ => XS.istore X204.here hx rfl (hb hby at_228) rfl (l' := #[oJ a, .second, oJ b, .second, oI c1, oI c2, oI mode, oI lens, oJ ver1, .second, oI vmo, oJ ver2, .second, oI (3 : Int32), oI (0 : Int32), oI dd, oR x1, oR x2, oI (0 : Int32), .unset, .unset, .unset]) rfl) ?_
          show Done _ p e below s _ _ (T204.setTop (mkF m 230 #[oJ a, .second, oJ b, .second, oI c1, oI c2, oI mode, oI lens, oJ ver1, .second, oI vmo, oJ ver2, .second, oI (3 : Int32), oI (0 : Int32), oI dd, oR x1, oR x2, oI (0 : Int32), .unset, .unset, .unset] []))
          refine Done.step (fun _ => XT.lload X204.here hx rfl (hb hby at_230) rfl) ?_
          show Done _ p e below s _ _ (T204.setTop (mkF m 232 #[oJ a, .second, oJ b, .second, oI c1, oI c2, oI mode, oI lens, oJ ver1, .second, oI vmo, oJ ver2, .second, oI (3 : Int32), oI (0 : Int32), oI dd, oR x1, oR x2, oI (0 : Int32), .unset, .unset, .unset] [(.long ver1)]))
          refine Done.step (fun _ => XT.lload X204.here hx rfl (hb hby at_232) rfl) ?_
          show Done _ p e below s _ _ (T204.setTop (mkF m 234 #[oJ a, .second, oJ b, .second, oI c1, oI c2, oI mode, oI lens, oJ ver1, .second, oI vmo, oJ ver2, .second, oI (3 : Int32), oI (0 : Int32), oI dd, oR x1, oR x2, oI (0 : Int32), .unset, .unset, .unset] [(.long ver2), (.long ver1)]))
          refine Done.step (fun _ => XT.lcmp X204.here hx rfl (hb hby at_234) rfl) ?_
          show Done _ p e below s _ _ (T204.setTop (mkF m 235 #[oJ a, .second, oJ b, .second, oI c1, oI c2, oI mode, oI lens, oJ ver1, .second, oI vmo, oJ ver2, .second, oI (3 : Int32), oI (0 : Int32), oI dd, oR x1, oR x2, oI (0 : Int32), .unset, .unset, .unset] [(.int (XT.cmpL ver1 ver2))]))
          by_cases hc205 : ver1 = ver2
          · refine Done.step (fun _ => XS.ifNo X204.here hx rfl (hb hby at_235) rfl (XT.ll_ne_f hc205)) ?_
            show Done _ p e below s _ _ (T204.setTop (mkF m 238 #[oJ a, .second, oJ b, .second, oI c1, oI c2, oI mode, oI lens, oJ ver1, .second, oI vmo, oJ ver2, .second, oI (3 : Int32), oI (0 : Int32), oI dd, oR x1, oR x2, oI (0 : Int32), .unset, .unset, .unset] []))
            refine Done.step (fun _ => XS.iload X204.here hx rfl (hb hby at_238) rfl) ?_
            show Done _ p e below s _ _ (T204.setTop (mkF m 240 #[oJ a, .second, oJ b, .second, oI c1, oI c2, oI mode, oI lens, oJ ver1, .second, oI vmo, oJ ver2, .second, oI (3 : Int32), oI (0 : Int32), oI dd, oR x1, oR x2, oI (0 : Int32), .unset, .unset, .unset] [(.int (0 : Int32))]))
            refine Done.step (fun _ => XS.ifYes X204.here hx rfl (pc0 := 240) (pc' := 247) rfl (hb hby at_240) rfl (XT.i0_eq_t rfl) (by decide) (by decide)) ?_
            show Done _ p e below s _ _ (T204.setTop (mkF m 247 #[oJ a, .second, oJ b, .second, oI c1, oI c2, oI mode, oI lens, oJ ver1, .second, oI vmo, oJ ver2, .second, oI (3 : Int32), oI (0 : Int32), oI dd, oR x1, oR x2, oI (0 : Int32), .unset, .unset, .unset] []))
            refine Done.step (fun _ => XT.iconstV X204.here hx rfl (0 : Int32) (hb hby at_247) (by decide)) ?_
            show Done _ p e below s _ _ (T204.setTop (mkF m 248 #[oJ a, .second, oJ b, .second, oI c1, oI c2, oI mode, oI lens, oJ ver1, .second, oI vmo, oJ ver2, .second, oI (3 : Int32), oI (0 : Int32), oI dd, oR x1, oR x2, oI (0 : Int32), .unset, .unset, .unset] [(.int (0 : Int32))]))
            refine Done.step (fun _ => XS.istore X204.here hx rfl (hb hby at_248) rfl (l' := #[oJ a, .second, oJ b, .second, oI c1, oI c2, oI mode, oI lens, oJ ver1, .second, oI vmo, oJ ver2, .second, oI (3 : Int32), oI (0 : Int32), oI dd, oR x1, oR x2, oI (0 : Int32), oI (0 : Int32), .unset, .unset]) rfl) ?_
            show Done _ p e below s _ _ (T204.setTop (mkF m 250 #[oJ a, .second, oJ b, .second, oI c1, oI c2, oI mode, oI lens, oJ ver1, .second, oI vmo, oJ ver2, .second, oI (3 : Int32), oI (0 : Int32), oI dd, oR x1, oR x2, oI (0 : Int32), oI (0 : Int32), .unset, .unset] []))
            have f206 := (f203.keep K204q all0)
            have f207 := (Em1.keep K204q)
            have f208 := (Vm1.keep K204q nin0)
            have f209 := (Cm1.keep K204q nin0)
            have f210 := (Km1.keep K204q nin0)
            exact tl250 Z a0 hw a b ver1 ver2 c1 c2 mode lens vmo (3 : Int32) (0 : Int32) dd (0 : Int32) (0 : Int32) x1 t1 kb1 ([own_ch c1 (0 : Int32), own_ch c1 (1 : Int32), own_ch c1 (2 : Int32)] : List Int32) x2 bb kk ([] : List Int32) z fm T204.heap n0 Zs204 f206 SC hz SF rF f207 f208 f209 f210 Em2 Vm2 Cm2 FB (fun c hc => (List.mem_cons.mp hc).elim (fun e => e ▸ own_chb c1 (0 : Int32)) ((fun c hc => (List.mem_cons.mp hc).elim (fun e => e ▸ own_chb c1 (1 : Int32)) ((fun c hc => (List.mem_cons.mp hc).elim (fun e => e ▸ own_chb c1 (2 : Int32)) ((fun c hc => absurd hc List.not_mem_nil) c)) c)) c)) (Nat.le_of_ble_eq_true rfl) (fun c hc => absurd hc List.not_mem_nil) (Nat.le_of_ble_eq_true rfl) hv1 hv2 (bP_f (fun q => by have e := congrArg List.length q.2; simp at e)).symm hx hby hml hown hret hlk hZ hS hk rfl (X204.mono (by decide) (by decide)) N204
          · refine Done.step (fun _ => XS.ifYes X204.here hx rfl (pc0 := 235) (pc' := 247) rfl (hb hby at_235) rfl (XT.ll_ne_t hc205) (by decide) (by decide)) ?_
            show Done _ p e below s _ _ (T204.setTop (mkF m 247 #[oJ a, .second, oJ b, .second, oI c1, oI c2, oI mode, oI lens, oJ ver1, .second, oI vmo, oJ ver2, .second, oI (3 : Int32), oI (0 : Int32), oI dd, oR x1, oR x2, oI (0 : Int32), .unset, .unset, .unset] []))
            refine Done.step (fun _ => XT.iconstV X204.here hx rfl (0 : Int32) (hb hby at_247) (by decide)) ?_
            show Done _ p e below s _ _ (T204.setTop (mkF m 248 #[oJ a, .second, oJ b, .second, oI c1, oI c2, oI mode, oI lens, oJ ver1, .second, oI vmo, oJ ver2, .second, oI (3 : Int32), oI (0 : Int32), oI dd, oR x1, oR x2, oI (0 : Int32), .unset, .unset, .unset] [(.int (0 : Int32))]))
            refine Done.step (fun _ => XS.istore X204.here hx rfl (hb hby at_248) rfl (l' := #[oJ a, .second, oJ b, .second, oI c1, oI c2, oI mode, oI lens, oJ ver1, .second, oI vmo, oJ ver2, .second, oI (3 : Int32), oI (0 : Int32), oI dd, oR x1, oR x2, oI (0 : Int32), oI (0 : Int32), .unset, .unset]) rfl) ?_
            show Done _ p e below s _ _ (T204.setTop (mkF m 250 #[oJ a, .second, oJ b, .second, oI c1, oI c2, oI mode, oI lens, oJ ver1, .second, oI vmo, oJ ver2, .second, oI (3 : Int32), oI (0 : Int32), oI dd, oR x1, oR x2, oI (0 : Int32), oI (0 : Int32), .unset, .unset] []))
            have f211 := (f203.keep K204q all0)
            have f212 := (Em1.keep K204q)
            have f213 := (Vm1.keep K204q nin0)
            have f214 := (Cm1.keep K204q nin0)
            have f215 := (Km1.keep K204q nin0)
            exact tl250 Z a0 hw a b ver1 ver2 c1 c2 mode lens vmo (3 : Int32) (0 : Int32) dd (0 : Int32) (0 : Int32) x1 t1 kb1 ([own_ch c1 (0 : Int32), own_ch c1 (1 : Int32), own_ch c1 (2 : Int32)] : List Int32) x2 bb kk ([] : List Int32) z fm T204.heap n0 Zs204 f211 SC hz SF rF f212 f213 f214 f215 Em2 Vm2 Cm2 FB (fun c hc => (List.mem_cons.mp hc).elim (fun e => e ▸ own_chb c1 (0 : Int32)) ((fun c hc => (List.mem_cons.mp hc).elim (fun e => e ▸ own_chb c1 (1 : Int32)) ((fun c hc => (List.mem_cons.mp hc).elim (fun e => e ▸ own_chb c1 (2 : Int32)) ((fun c hc => absurd hc List.not_mem_nil) c)) c)) c)) (Nat.le_of_ble_eq_true rfl) (fun c hc => absurd hc List.not_mem_nil) (Nat.le_of_ble_eq_true rfl) hv1 hv2 (bP_f (fun q => hc205 q.1.symm)).symm hx hby hml hown hret hlk hZ hS hk rfl (X204.mono (by decide) (by decide)) N204
        · rw [hv]
          show Done _ p e below s _ _ (T202.setTop (mkF m 144 #[oJ a, .second, oJ b, .second, oI c1, oI c2, oI mode, oI lens, oJ ver1, .second, oI vmo, oJ ver2, .second, oI (3 : Int32), oI (1 : Int32), oI dd, oR x1, .unset, .unset, .unset, .unset, .unset] []))
          refine Done.step (fun _ => XS.iload X202.here hx rfl (hb hby at_144) rfl) ?_
          show Done _ p e below s _ _ (T202.setTop (mkF m 146 #[oJ a, .second, oJ b, .second, oI c1, oI c2, oI mode, oI lens, oJ ver1, .second, oI vmo, oJ ver2, .second, oI (3 : Int32), oI (1 : Int32), oI dd, oR x1, .unset, .unset, .unset, .unset, .unset] [(.int (1 : Int32))]))
          refine Done.step (fun _ => XS.iload X202.here hx rfl (hb hby at_146) rfl) ?_
          show Done _ p e below s _ _ (T202.setTop (mkF m 148 #[oJ a, .second, oJ b, .second, oI c1, oI c2, oI mode, oI lens, oJ ver1, .second, oI vmo, oJ ver2, .second, oI (3 : Int32), oI (1 : Int32), oI dd, oR x1, .unset, .unset, .unset, .unset, .unset] [(.int dd), (.int (1 : Int32))]))
          have f216 := (O0.keep K202q all0)
          refine Done.callS X202 hx hZ hown (wAt hw 5 rfl) (wAt hw 6 rfl) (wAt hw 7 rfl) (wAt hw 8 rfl) (by decide) (rmM1 l Z a0 hw [] dd z T202.heap n0 Zs202 f216 SC hz) (fun _ _ => trivial) rfl (g := (mkF m 148 #[oJ a, .second, oJ b, .second, oI c1, oI c2, oI mode, oI lens, oJ ver1, .second, oI vmo, oJ ver2, .second, oI (3 : Int32), oI (1 : Int32), oI dd, oR x1, .unset, .unset, .unset, .unset, .unset] [(.int dd), (.int (1 : Int32))])) rfl (by rw [hml]; rfl) [(.int (1 : Int32)), (.int dd)] [] 0 (lenOf pd_13 rfl) rfl rfl (by show 2 * 0 + _ ≤ _; exact Nat.le_of_eq rfl) (hb hby at_148) (by decide) (by decide) (by decide) (by decide) ?_
          intro T217 v217 L217 X217 q217
          obtain ⟨x2, t2, kb2, rfl, Nq217, K217q, Em2, Vm2, Cm2, Km2⟩ := q217
          have N217 := Fr.app N202 Nq217
          have Zs217 := Nat.le_trans Zs202 K217q.1
          have hk := Nat.le_trans hk K217q.1
          show Done _ p e below s _ _ (T217.setTop (mkF m 151 #[oJ a, .second, oJ b, .second, oI c1, oI c2, oI mode, oI lens, oJ ver1, .second, oI vmo, oJ ver2, .second, oI (3 : Int32), oI (1 : Int32), oI dd, oR x1, .unset, .unset, .unset, .unset, .unset] [(.ref x2)]))
          refine Done.step (fun _ => XS.astore X217.here hx rfl (hb hby at_151) rfl rfl (l' := #[oJ a, .second, oJ b, .second, oI c1, oI c2, oI mode, oI lens, oJ ver1, .second, oI vmo, oJ ver2, .second, oI (3 : Int32), oI (1 : Int32), oI dd, oR x1, oR x2, .unset, .unset, .unset, .unset]) rfl) ?_
          show Done _ p e below s _ _ (T217.setTop (mkF m 153 #[oJ a, .second, oJ b, .second, oI c1, oI c2, oI mode, oI lens, oJ ver1, .second, oI vmo, oJ ver2, .second, oI (3 : Int32), oI (1 : Int32), oI dd, oR x1, oR x2, .unset, .unset, .unset, .unset] []))
          refine Done.step (fun _ => XS.iload X217.here hx rfl (hb hby at_153) rfl) ?_
          show Done _ p e below s _ _ (T217.setTop (mkF m 155 #[oJ a, .second, oJ b, .second, oI c1, oI c2, oI mode, oI lens, oJ ver1, .second, oI vmo, oJ ver2, .second, oI (3 : Int32), oI (1 : Int32), oI dd, oR x1, oR x2, .unset, .unset, .unset, .unset] [(.int (3 : Int32))]))
          refine Done.step (fun _ => XS.iload X217.here hx rfl (hb hby at_155) rfl) ?_
          show Done _ p e below s _ _ (T217.setTop (mkF m 157 #[oJ a, .second, oJ b, .second, oI c1, oI c2, oI mode, oI lens, oJ ver1, .second, oI vmo, oJ ver2, .second, oI (3 : Int32), oI (1 : Int32), oI dd, oR x1, oR x2, .unset, .unset, .unset, .unset] [(.int (1 : Int32)), (.int (3 : Int32))]))
          refine Done.step (fun _ => XS.icmpYes X217.here hx rfl (pc0 := 157) (pc' := 227) rfl (hb hby at_157) rfl (XT.ii_ne_t (by decide)) (by decide) (by decide)) ?_
          show Done _ p e below s _ _ (T217.setTop (mkF m 227 #[oJ a, .second, oJ b, .second, oI c1, oI c2, oI mode, oI lens, oJ ver1, .second, oI vmo, oJ ver2, .second, oI (3 : Int32), oI (1 : Int32), oI dd, oR x1, oR x2, .unset, .unset, .unset, .unset] []))
          refine Done.step (fun _ => XT.iconstV X217.here hx rfl (0 : Int32) (hb hby at_227) (by decide)) ?_
          show Done _ p e below s _ _ (T217.setTop (mkF m 228 #[oJ a, .second, oJ b, .second, oI c1, oI c2, oI mode, oI lens, oJ ver1, .second, oI vmo, oJ ver2, .second, oI (3 : Int32), oI (1 : Int32), oI dd, oR x1, oR x2, .unset, .unset, .unset, .unset] [(.int (0 : Int32))]))
          refine Done.step (fun _ => XS.istore X217.here hx rfl (hb hby at_228) rfl (l' := #[oJ a, .second, oJ b, .second, oI c1, oI c2, oI mode, oI lens, oJ ver1, .second, oI vmo, oJ ver2, .second, oI (3 : Int32), oI (1 : Int32), oI dd, oR x1, oR x2, oI (0 : Int32), .unset, .unset, .unset]) rfl) ?_
          show Done _ p e below s _ _ (T217.setTop (mkF m 230 #[oJ a, .second, oJ b, .second, oI c1, oI c2, oI mode, oI lens, oJ ver1, .second, oI vmo, oJ ver2, .second, oI (3 : Int32), oI (1 : Int32), oI dd, oR x1, oR x2, oI (0 : Int32), .unset, .unset, .unset] []))
          refine Done.step (fun _ => XT.lload X217.here hx rfl (hb hby at_230) rfl) ?_
          show Done _ p e below s _ _ (T217.setTop (mkF m 232 #[oJ a, .second, oJ b, .second, oI c1, oI c2, oI mode, oI lens, oJ ver1, .second, oI vmo, oJ ver2, .second, oI (3 : Int32), oI (1 : Int32), oI dd, oR x1, oR x2, oI (0 : Int32), .unset, .unset, .unset] [(.long ver1)]))
          refine Done.step (fun _ => XT.lload X217.here hx rfl (hb hby at_232) rfl) ?_
          show Done _ p e below s _ _ (T217.setTop (mkF m 234 #[oJ a, .second, oJ b, .second, oI c1, oI c2, oI mode, oI lens, oJ ver1, .second, oI vmo, oJ ver2, .second, oI (3 : Int32), oI (1 : Int32), oI dd, oR x1, oR x2, oI (0 : Int32), .unset, .unset, .unset] [(.long ver2), (.long ver1)]))
          refine Done.step (fun _ => XT.lcmp X217.here hx rfl (hb hby at_234) rfl) ?_
          show Done _ p e below s _ _ (T217.setTop (mkF m 235 #[oJ a, .second, oJ b, .second, oI c1, oI c2, oI mode, oI lens, oJ ver1, .second, oI vmo, oJ ver2, .second, oI (3 : Int32), oI (1 : Int32), oI dd, oR x1, oR x2, oI (0 : Int32), .unset, .unset, .unset] [(.int (XT.cmpL ver1 ver2))]))
          by_cases hc218 : ver1 = ver2
          · refine Done.step (fun _ => XS.ifNo X217.here hx rfl (hb hby at_235) rfl (XT.ll_ne_f hc218)) ?_
            show Done _ p e below s _ _ (T217.setTop (mkF m 238 #[oJ a, .second, oJ b, .second, oI c1, oI c2, oI mode, oI lens, oJ ver1, .second, oI vmo, oJ ver2, .second, oI (3 : Int32), oI (1 : Int32), oI dd, oR x1, oR x2, oI (0 : Int32), .unset, .unset, .unset] []))
            refine Done.step (fun _ => XS.iload X217.here hx rfl (hb hby at_238) rfl) ?_
            show Done _ p e below s _ _ (T217.setTop (mkF m 240 #[oJ a, .second, oJ b, .second, oI c1, oI c2, oI mode, oI lens, oJ ver1, .second, oI vmo, oJ ver2, .second, oI (3 : Int32), oI (1 : Int32), oI dd, oR x1, oR x2, oI (0 : Int32), .unset, .unset, .unset] [(.int (0 : Int32))]))
            refine Done.step (fun _ => XS.ifYes X217.here hx rfl (pc0 := 240) (pc' := 247) rfl (hb hby at_240) rfl (XT.i0_eq_t rfl) (by decide) (by decide)) ?_
            show Done _ p e below s _ _ (T217.setTop (mkF m 247 #[oJ a, .second, oJ b, .second, oI c1, oI c2, oI mode, oI lens, oJ ver1, .second, oI vmo, oJ ver2, .second, oI (3 : Int32), oI (1 : Int32), oI dd, oR x1, oR x2, oI (0 : Int32), .unset, .unset, .unset] []))
            refine Done.step (fun _ => XT.iconstV X217.here hx rfl (0 : Int32) (hb hby at_247) (by decide)) ?_
            show Done _ p e below s _ _ (T217.setTop (mkF m 248 #[oJ a, .second, oJ b, .second, oI c1, oI c2, oI mode, oI lens, oJ ver1, .second, oI vmo, oJ ver2, .second, oI (3 : Int32), oI (1 : Int32), oI dd, oR x1, oR x2, oI (0 : Int32), .unset, .unset, .unset] [(.int (0 : Int32))]))
            refine Done.step (fun _ => XS.istore X217.here hx rfl (hb hby at_248) rfl (l' := #[oJ a, .second, oJ b, .second, oI c1, oI c2, oI mode, oI lens, oJ ver1, .second, oI vmo, oJ ver2, .second, oI (3 : Int32), oI (1 : Int32), oI dd, oR x1, oR x2, oI (0 : Int32), oI (0 : Int32), .unset, .unset]) rfl) ?_
            show Done _ p e below s _ _ (T217.setTop (mkF m 250 #[oJ a, .second, oJ b, .second, oI c1, oI c2, oI mode, oI lens, oJ ver1, .second, oI vmo, oJ ver2, .second, oI (3 : Int32), oI (1 : Int32), oI dd, oR x1, oR x2, oI (0 : Int32), oI (0 : Int32), .unset, .unset] []))
            have f219 := (f216.keep K217q all0)
            have f220 := (Em1.keep K217q)
            have f221 := (Vm1.keep K217q nin0)
            have f222 := (Cm1.keep K217q nin0)
            have f223 := (Km1.keep K217q nin0)
            exact tl250 Z a0 hw a b ver1 ver2 c1 c2 mode lens vmo (3 : Int32) (1 : Int32) dd (0 : Int32) (0 : Int32) x1 t1 kb1 ([own_ch c1 (0 : Int32), own_ch c1 (1 : Int32), own_ch c1 (2 : Int32)] : List Int32) x2 t2 kb2 ([own_ch dd (0 : Int32)] : List Int32) z fm T217.heap n0 Zs217 f219 SC hz SF rF f220 f221 f222 f223 Em2 Vm2 Cm2 Km2 (fun c hc => (List.mem_cons.mp hc).elim (fun e => e ▸ own_chb c1 (0 : Int32)) ((fun c hc => (List.mem_cons.mp hc).elim (fun e => e ▸ own_chb c1 (1 : Int32)) ((fun c hc => (List.mem_cons.mp hc).elim (fun e => e ▸ own_chb c1 (2 : Int32)) ((fun c hc => absurd hc List.not_mem_nil) c)) c)) c)) (Nat.le_of_ble_eq_true rfl) (fun c hc => (List.mem_cons.mp hc).elim (fun e => e ▸ own_chb dd (0 : Int32)) ((fun c hc => absurd hc List.not_mem_nil) c)) (Nat.le_of_ble_eq_true rfl) hv1 hv2 (bP_f (fun q => by have e := congrArg List.length q.2; simp at e)).symm hx hby hml hown hret hlk hZ hS hk rfl (X217.mono (by decide) (by decide)) N217
          · refine Done.step (fun _ => XS.ifYes X217.here hx rfl (pc0 := 235) (pc' := 247) rfl (hb hby at_235) rfl (XT.ll_ne_t hc218) (by decide) (by decide)) ?_
            show Done _ p e below s _ _ (T217.setTop (mkF m 247 #[oJ a, .second, oJ b, .second, oI c1, oI c2, oI mode, oI lens, oJ ver1, .second, oI vmo, oJ ver2, .second, oI (3 : Int32), oI (1 : Int32), oI dd, oR x1, oR x2, oI (0 : Int32), .unset, .unset, .unset] []))
            refine Done.step (fun _ => XT.iconstV X217.here hx rfl (0 : Int32) (hb hby at_247) (by decide)) ?_
            show Done _ p e below s _ _ (T217.setTop (mkF m 248 #[oJ a, .second, oJ b, .second, oI c1, oI c2, oI mode, oI lens, oJ ver1, .second, oI vmo, oJ ver2, .second, oI (3 : Int32), oI (1 : Int32), oI dd, oR x1, oR x2, oI (0 : Int32), .unset, .unset, .unset] [(.int (0 : Int32))]))
            refine Done.step (fun _ => XS.istore X217.here hx rfl (hb hby at_248) rfl (l' := #[oJ a, .second, oJ b, .second, oI c1, oI c2, oI mode, oI lens, oJ ver1, .second, oI vmo, oJ ver2, .second, oI (3 : Int32), oI (1 : Int32), oI dd, oR x1, oR x2, oI (0 : Int32), oI (0 : Int32), .unset, .unset]) rfl) ?_
            show Done _ p e below s _ _ (T217.setTop (mkF m 250 #[oJ a, .second, oJ b, .second, oI c1, oI c2, oI mode, oI lens, oJ ver1, .second, oI vmo, oJ ver2, .second, oI (3 : Int32), oI (1 : Int32), oI dd, oR x1, oR x2, oI (0 : Int32), oI (0 : Int32), .unset, .unset] []))
            have f224 := (f216.keep K217q all0)
            have f225 := (Em1.keep K217q)
            have f226 := (Vm1.keep K217q nin0)
            have f227 := (Cm1.keep K217q nin0)
            have f228 := (Km1.keep K217q nin0)
            exact tl250 Z a0 hw a b ver1 ver2 c1 c2 mode lens vmo (3 : Int32) (1 : Int32) dd (0 : Int32) (0 : Int32) x1 t1 kb1 ([own_ch c1 (0 : Int32), own_ch c1 (1 : Int32), own_ch c1 (2 : Int32)] : List Int32) x2 t2 kb2 ([own_ch dd (0 : Int32)] : List Int32) z fm T217.heap n0 Zs217 f224 SC hz SF rF f225 f226 f227 f228 Em2 Vm2 Cm2 Km2 (fun c hc => (List.mem_cons.mp hc).elim (fun e => e ▸ own_chb c1 (0 : Int32)) ((fun c hc => (List.mem_cons.mp hc).elim (fun e => e ▸ own_chb c1 (1 : Int32)) ((fun c hc => (List.mem_cons.mp hc).elim (fun e => e ▸ own_chb c1 (2 : Int32)) ((fun c hc => absurd hc List.not_mem_nil) c)) c)) c)) (Nat.le_of_ble_eq_true rfl) (fun c hc => (List.mem_cons.mp hc).elim (fun e => e ▸ own_chb dd (0 : Int32)) ((fun c hc => absurd hc List.not_mem_nil) c)) (Nat.le_of_ble_eq_true rfl) hv1 hv2 (bP_f (fun q => hc218 q.1.symm)).symm hx hby hml hown hret hlk hZ hS hk rfl (X217.mono (by decide) (by decide)) N217
        · rw [hv]
          show Done _ p e below s _ _ (T202.setTop (mkF m 144 #[oJ a, .second, oJ b, .second, oI c1, oI c2, oI mode, oI lens, oJ ver1, .second, oI vmo, oJ ver2, .second, oI (3 : Int32), oI (2 : Int32), oI dd, oR x1, .unset, .unset, .unset, .unset, .unset] []))
          refine Done.step (fun _ => XS.iload X202.here hx rfl (hb hby at_144) rfl) ?_
          show Done _ p e below s _ _ (T202.setTop (mkF m 146 #[oJ a, .second, oJ b, .second, oI c1, oI c2, oI mode, oI lens, oJ ver1, .second, oI vmo, oJ ver2, .second, oI (3 : Int32), oI (2 : Int32), oI dd, oR x1, .unset, .unset, .unset, .unset, .unset] [(.int (2 : Int32))]))
          refine Done.step (fun _ => XS.iload X202.here hx rfl (hb hby at_146) rfl) ?_
          show Done _ p e below s _ _ (T202.setTop (mkF m 148 #[oJ a, .second, oJ b, .second, oI c1, oI c2, oI mode, oI lens, oJ ver1, .second, oI vmo, oJ ver2, .second, oI (3 : Int32), oI (2 : Int32), oI dd, oR x1, .unset, .unset, .unset, .unset, .unset] [(.int dd), (.int (2 : Int32))]))
          have f229 := (O0.keep K202q all0)
          refine Done.callS X202 hx hZ hown (wAt hw 5 rfl) (wAt hw 6 rfl) (wAt hw 7 rfl) (wAt hw 8 rfl) (by decide) (rmM2 l Z a0 hw [] dd z T202.heap n0 Zs202 f229 SC hz) (fun _ _ => trivial) rfl (g := (mkF m 148 #[oJ a, .second, oJ b, .second, oI c1, oI c2, oI mode, oI lens, oJ ver1, .second, oI vmo, oJ ver2, .second, oI (3 : Int32), oI (2 : Int32), oI dd, oR x1, .unset, .unset, .unset, .unset, .unset] [(.int dd), (.int (2 : Int32))])) rfl (by rw [hml]; rfl) [(.int (2 : Int32)), (.int dd)] [] 0 (lenOf pd_13 rfl) rfl rfl (by show 2 * 0 + _ ≤ _; exact Nat.le_of_eq rfl) (hb hby at_148) (by decide) (by decide) (by decide) (by decide) ?_
          intro T230 v230 L230 X230 q230
          obtain ⟨x2, t2, kb2, rfl, Nq230, K230q, Em2, Vm2, Cm2, Km2⟩ := q230
          have N230 := Fr.app N202 Nq230
          have Zs230 := Nat.le_trans Zs202 K230q.1
          have hk := Nat.le_trans hk K230q.1
          show Done _ p e below s _ _ (T230.setTop (mkF m 151 #[oJ a, .second, oJ b, .second, oI c1, oI c2, oI mode, oI lens, oJ ver1, .second, oI vmo, oJ ver2, .second, oI (3 : Int32), oI (2 : Int32), oI dd, oR x1, .unset, .unset, .unset, .unset, .unset] [(.ref x2)]))
          refine Done.step (fun _ => XS.astore X230.here hx rfl (hb hby at_151) rfl rfl (l' := #[oJ a, .second, oJ b, .second, oI c1, oI c2, oI mode, oI lens, oJ ver1, .second, oI vmo, oJ ver2, .second, oI (3 : Int32), oI (2 : Int32), oI dd, oR x1, oR x2, .unset, .unset, .unset, .unset]) rfl) ?_
          show Done _ p e below s _ _ (T230.setTop (mkF m 153 #[oJ a, .second, oJ b, .second, oI c1, oI c2, oI mode, oI lens, oJ ver1, .second, oI vmo, oJ ver2, .second, oI (3 : Int32), oI (2 : Int32), oI dd, oR x1, oR x2, .unset, .unset, .unset, .unset] []))
          refine Done.step (fun _ => XS.iload X230.here hx rfl (hb hby at_153) rfl) ?_
          show Done _ p e below s _ _ (T230.setTop (mkF m 155 #[oJ a, .second, oJ b, .second, oI c1, oI c2, oI mode, oI lens, oJ ver1, .second, oI vmo, oJ ver2, .second, oI (3 : Int32), oI (2 : Int32), oI dd, oR x1, oR x2, .unset, .unset, .unset, .unset] [(.int (3 : Int32))]))
          refine Done.step (fun _ => XS.iload X230.here hx rfl (hb hby at_155) rfl) ?_
          show Done _ p e below s _ _ (T230.setTop (mkF m 157 #[oJ a, .second, oJ b, .second, oI c1, oI c2, oI mode, oI lens, oJ ver1, .second, oI vmo, oJ ver2, .second, oI (3 : Int32), oI (2 : Int32), oI dd, oR x1, oR x2, .unset, .unset, .unset, .unset] [(.int (2 : Int32)), (.int (3 : Int32))]))
          refine Done.step (fun _ => XS.icmpYes X230.here hx rfl (pc0 := 157) (pc' := 227) rfl (hb hby at_157) rfl (XT.ii_ne_t (by decide)) (by decide) (by decide)) ?_
          show Done _ p e below s _ _ (T230.setTop (mkF m 227 #[oJ a, .second, oJ b, .second, oI c1, oI c2, oI mode, oI lens, oJ ver1, .second, oI vmo, oJ ver2, .second, oI (3 : Int32), oI (2 : Int32), oI dd, oR x1, oR x2, .unset, .unset, .unset, .unset] []))
          refine Done.step (fun _ => XT.iconstV X230.here hx rfl (0 : Int32) (hb hby at_227) (by decide)) ?_
          show Done _ p e below s _ _ (T230.setTop (mkF m 228 #[oJ a, .second, oJ b, .second, oI c1, oI c2, oI mode, oI lens, oJ ver1, .second, oI vmo, oJ ver2, .second, oI (3 : Int32), oI (2 : Int32), oI dd, oR x1, oR x2, .unset, .unset, .unset, .unset] [(.int (0 : Int32))]))
          refine Done.step (fun _ => XS.istore X230.here hx rfl (hb hby at_228) rfl (l' := #[oJ a, .second, oJ b, .second, oI c1, oI c2, oI mode, oI lens, oJ ver1, .second, oI vmo, oJ ver2, .second, oI (3 : Int32), oI (2 : Int32), oI dd, oR x1, oR x2, oI (0 : Int32), .unset, .unset, .unset]) rfl) ?_
          show Done _ p e below s _ _ (T230.setTop (mkF m 230 #[oJ a, .second, oJ b, .second, oI c1, oI c2, oI mode, oI lens, oJ ver1, .second, oI vmo, oJ ver2, .second, oI (3 : Int32), oI (2 : Int32), oI dd, oR x1, oR x2, oI (0 : Int32), .unset, .unset, .unset] []))
          refine Done.step (fun _ => XT.lload X230.here hx rfl (hb hby at_230) rfl) ?_
          show Done _ p e below s _ _ (T230.setTop (mkF m 232 #[oJ a, .second, oJ b, .second, oI c1, oI c2, oI mode, oI lens, oJ ver1, .second, oI vmo, oJ ver2, .second, oI (3 : Int32), oI (2 : Int32), oI dd, oR x1, oR x2, oI (0 : Int32), .unset, .unset, .unset] [(.long ver1)]))
          refine Done.step (fun _ => XT.lload X230.here hx rfl (hb hby at_232) rfl) ?_
          show Done _ p e below s _ _ (T230.setTop (mkF m 234 #[oJ a, .second, oJ b, .second, oI c1, oI c2, oI mode, oI lens, oJ ver1, .second, oI vmo, oJ ver2, .second, oI (3 : Int32), oI (2 : Int32), oI dd, oR x1, oR x2, oI (0 : Int32), .unset, .unset, .unset] [(.long ver2), (.long ver1)]))
          refine Done.step (fun _ => XT.lcmp X230.here hx rfl (hb hby at_234) rfl) ?_
          show Done _ p e below s _ _ (T230.setTop (mkF m 235 #[oJ a, .second, oJ b, .second, oI c1, oI c2, oI mode, oI lens, oJ ver1, .second, oI vmo, oJ ver2, .second, oI (3 : Int32), oI (2 : Int32), oI dd, oR x1, oR x2, oI (0 : Int32), .unset, .unset, .unset] [(.int (XT.cmpL ver1 ver2))]))
          by_cases hc231 : ver1 = ver2
          · refine Done.step (fun _ => XS.ifNo X230.here hx rfl (hb hby at_235) rfl (XT.ll_ne_f hc231)) ?_
            show Done _ p e below s _ _ (T230.setTop (mkF m 238 #[oJ a, .second, oJ b, .second, oI c1, oI c2, oI mode, oI lens, oJ ver1, .second, oI vmo, oJ ver2, .second, oI (3 : Int32), oI (2 : Int32), oI dd, oR x1, oR x2, oI (0 : Int32), .unset, .unset, .unset] []))
            refine Done.step (fun _ => XS.iload X230.here hx rfl (hb hby at_238) rfl) ?_
            show Done _ p e below s _ _ (T230.setTop (mkF m 240 #[oJ a, .second, oJ b, .second, oI c1, oI c2, oI mode, oI lens, oJ ver1, .second, oI vmo, oJ ver2, .second, oI (3 : Int32), oI (2 : Int32), oI dd, oR x1, oR x2, oI (0 : Int32), .unset, .unset, .unset] [(.int (0 : Int32))]))
            refine Done.step (fun _ => XS.ifYes X230.here hx rfl (pc0 := 240) (pc' := 247) rfl (hb hby at_240) rfl (XT.i0_eq_t rfl) (by decide) (by decide)) ?_
            show Done _ p e below s _ _ (T230.setTop (mkF m 247 #[oJ a, .second, oJ b, .second, oI c1, oI c2, oI mode, oI lens, oJ ver1, .second, oI vmo, oJ ver2, .second, oI (3 : Int32), oI (2 : Int32), oI dd, oR x1, oR x2, oI (0 : Int32), .unset, .unset, .unset] []))
            refine Done.step (fun _ => XT.iconstV X230.here hx rfl (0 : Int32) (hb hby at_247) (by decide)) ?_
            show Done _ p e below s _ _ (T230.setTop (mkF m 248 #[oJ a, .second, oJ b, .second, oI c1, oI c2, oI mode, oI lens, oJ ver1, .second, oI vmo, oJ ver2, .second, oI (3 : Int32), oI (2 : Int32), oI dd, oR x1, oR x2, oI (0 : Int32), .unset, .unset, .unset] [(.int (0 : Int32))]))
            refine Done.step (fun _ => XS.istore X230.here hx rfl (hb hby at_248) rfl (l' := #[oJ a, .second, oJ b, .second, oI c1, oI c2, oI mode, oI lens, oJ ver1, .second, oI vmo, oJ ver2, .second, oI (3 : Int32), oI (2 : Int32), oI dd, oR x1, oR x2, oI (0 : Int32), oI (0 : Int32), .unset, .unset]) rfl) ?_
            show Done _ p e below s _ _ (T230.setTop (mkF m 250 #[oJ a, .second, oJ b, .second, oI c1, oI c2, oI mode, oI lens, oJ ver1, .second, oI vmo, oJ ver2, .second, oI (3 : Int32), oI (2 : Int32), oI dd, oR x1, oR x2, oI (0 : Int32), oI (0 : Int32), .unset, .unset] []))
            have f232 := (f229.keep K230q all0)
            have f233 := (Em1.keep K230q)
            have f234 := (Vm1.keep K230q nin0)
            have f235 := (Cm1.keep K230q nin0)
            have f236 := (Km1.keep K230q nin0)
            exact tl250 Z a0 hw a b ver1 ver2 c1 c2 mode lens vmo (3 : Int32) (2 : Int32) dd (0 : Int32) (0 : Int32) x1 t1 kb1 ([own_ch c1 (0 : Int32), own_ch c1 (1 : Int32), own_ch c1 (2 : Int32)] : List Int32) x2 t2 kb2 ([own_ch dd (0 : Int32), own_ch dd (1 : Int32)] : List Int32) z fm T230.heap n0 Zs230 f232 SC hz SF rF f233 f234 f235 f236 Em2 Vm2 Cm2 Km2 (fun c hc => (List.mem_cons.mp hc).elim (fun e => e ▸ own_chb c1 (0 : Int32)) ((fun c hc => (List.mem_cons.mp hc).elim (fun e => e ▸ own_chb c1 (1 : Int32)) ((fun c hc => (List.mem_cons.mp hc).elim (fun e => e ▸ own_chb c1 (2 : Int32)) ((fun c hc => absurd hc List.not_mem_nil) c)) c)) c)) (Nat.le_of_ble_eq_true rfl) (fun c hc => (List.mem_cons.mp hc).elim (fun e => e ▸ own_chb dd (0 : Int32)) ((fun c hc => (List.mem_cons.mp hc).elim (fun e => e ▸ own_chb dd (1 : Int32)) ((fun c hc => absurd hc List.not_mem_nil) c)) c)) (Nat.le_of_ble_eq_true rfl) hv1 hv2 (bP_f (fun q => by have e := congrArg List.length q.2; simp at e)).symm hx hby hml hown hret hlk hZ hS hk rfl (X230.mono (by decide) (by decide)) N230
          · refine Done.step (fun _ => XS.ifYes X230.here hx rfl (pc0 := 235) (pc' := 247) rfl (hb hby at_235) rfl (XT.ll_ne_t hc231) (by decide) (by decide)) ?_
            show Done _ p e below s _ _ (T230.setTop (mkF m 247 #[oJ a, .second, oJ b, .second, oI c1, oI c2, oI mode, oI lens, oJ ver1, .second, oI vmo, oJ ver2, .second, oI (3 : Int32), oI (2 : Int32), oI dd, oR x1, oR x2, oI (0 : Int32), .unset, .unset, .unset] []))
            refine Done.step (fun _ => XT.iconstV X230.here hx rfl (0 : Int32) (hb hby at_247) (by decide)) ?_
            show Done _ p e below s _ _ (T230.setTop (mkF m 248 #[oJ a, .second, oJ b, .second, oI c1, oI c2, oI mode, oI lens, oJ ver1, .second, oI vmo, oJ ver2, .second, oI (3 : Int32), oI (2 : Int32), oI dd, oR x1, oR x2, oI (0 : Int32), .unset, .unset, .unset] [(.int (0 : Int32))]))
            refine Done.step (fun _ => XS.istore X230.here hx rfl (hb hby at_248) rfl (l' := #[oJ a, .second, oJ b, .second, oI c1, oI c2, oI mode, oI lens, oJ ver1, .second, oI vmo, oJ ver2, .second, oI (3 : Int32), oI (2 : Int32), oI dd, oR x1, oR x2, oI (0 : Int32), oI (0 : Int32), .unset, .unset]) rfl) ?_
            show Done _ p e below s _ _ (T230.setTop (mkF m 250 #[oJ a, .second, oJ b, .second, oI c1, oI c2, oI mode, oI lens, oJ ver1, .second, oI vmo, oJ ver2, .second, oI (3 : Int32), oI (2 : Int32), oI dd, oR x1, oR x2, oI (0 : Int32), oI (0 : Int32), .unset, .unset] []))
            have f237 := (f229.keep K230q all0)
            have f238 := (Em1.keep K230q)
            have f239 := (Vm1.keep K230q nin0)
            have f240 := (Cm1.keep K230q nin0)
            have f241 := (Km1.keep K230q nin0)
            exact tl250 Z a0 hw a b ver1 ver2 c1 c2 mode lens vmo (3 : Int32) (2 : Int32) dd (0 : Int32) (0 : Int32) x1 t1 kb1 ([own_ch c1 (0 : Int32), own_ch c1 (1 : Int32), own_ch c1 (2 : Int32)] : List Int32) x2 t2 kb2 ([own_ch dd (0 : Int32), own_ch dd (1 : Int32)] : List Int32) z fm T230.heap n0 Zs230 f237 SC hz SF rF f238 f239 f240 f241 Em2 Vm2 Cm2 Km2 (fun c hc => (List.mem_cons.mp hc).elim (fun e => e ▸ own_chb c1 (0 : Int32)) ((fun c hc => (List.mem_cons.mp hc).elim (fun e => e ▸ own_chb c1 (1 : Int32)) ((fun c hc => (List.mem_cons.mp hc).elim (fun e => e ▸ own_chb c1 (2 : Int32)) ((fun c hc => absurd hc List.not_mem_nil) c)) c)) c)) (Nat.le_of_ble_eq_true rfl) (fun c hc => (List.mem_cons.mp hc).elim (fun e => e ▸ own_chb dd (0 : Int32)) ((fun c hc => (List.mem_cons.mp hc).elim (fun e => e ▸ own_chb dd (1 : Int32)) ((fun c hc => absurd hc List.not_mem_nil) c)) c)) (Nat.le_of_ble_eq_true rfl) hv1 hv2 (bP_f (fun q => hc231 q.1.symm)).symm hx hby hml hown hret hlk hZ hS hk rfl (X230.mono (by decide) (by decide)) N230
        · rw [hv]
          show Done _ p e below s _ _ (T202.setTop (mkF m 144 #[oJ a, .second, oJ b, .second, oI c1, oI c2, oI mode, oI lens, oJ ver1, .second, oI vmo, oJ ver2, .second, oI (3 : Int32), oI (3 : Int32), oI dd, oR x1, .unset, .unset, .unset, .unset, .unset] []))
          refine Done.step (fun _ => XS.iload X202.here hx rfl (hb hby at_144) rfl) ?_
          show Done _ p e below s _ _ (T202.setTop (mkF m 146 #[oJ a, .second, oJ b, .second, oI c1, oI c2, oI mode, oI lens, oJ ver1, .second, oI vmo, oJ ver2, .second, oI (3 : Int32), oI (3 : Int32), oI dd, oR x1, .unset, .unset, .unset, .unset, .unset] [(.int (3 : Int32))]))
          refine Done.step (fun _ => XS.iload X202.here hx rfl (hb hby at_146) rfl) ?_
          show Done _ p e below s _ _ (T202.setTop (mkF m 148 #[oJ a, .second, oJ b, .second, oI c1, oI c2, oI mode, oI lens, oJ ver1, .second, oI vmo, oJ ver2, .second, oI (3 : Int32), oI (3 : Int32), oI dd, oR x1, .unset, .unset, .unset, .unset, .unset] [(.int dd), (.int (3 : Int32))]))
          have f242 := (O0.keep K202q all0)
          refine Done.callS X202 hx hZ hown (wAt hw 5 rfl) (wAt hw 6 rfl) (wAt hw 7 rfl) (wAt hw 8 rfl) (by decide) (rmM3 l Z a0 hw [] dd z T202.heap n0 Zs202 f242 SC hz) (fun _ _ => trivial) rfl (g := (mkF m 148 #[oJ a, .second, oJ b, .second, oI c1, oI c2, oI mode, oI lens, oJ ver1, .second, oI vmo, oJ ver2, .second, oI (3 : Int32), oI (3 : Int32), oI dd, oR x1, .unset, .unset, .unset, .unset, .unset] [(.int dd), (.int (3 : Int32))])) rfl (by rw [hml]; rfl) [(.int (3 : Int32)), (.int dd)] [] 0 (lenOf pd_13 rfl) rfl rfl (by show 2 * 0 + _ ≤ _; exact Nat.le_of_eq rfl) (hb hby at_148) (by decide) (by decide) (by decide) (by decide) ?_
          intro T243 v243 L243 X243 q243
          obtain ⟨x2, t2, kb2, rfl, Nq243, K243q, Em2, Vm2, Cm2, Km2⟩ := q243
          have N243 := Fr.app N202 Nq243
          have Zs243 := Nat.le_trans Zs202 K243q.1
          have hk := Nat.le_trans hk K243q.1
          show Done _ p e below s _ _ (T243.setTop (mkF m 151 #[oJ a, .second, oJ b, .second, oI c1, oI c2, oI mode, oI lens, oJ ver1, .second, oI vmo, oJ ver2, .second, oI (3 : Int32), oI (3 : Int32), oI dd, oR x1, .unset, .unset, .unset, .unset, .unset] [(.ref x2)]))
          refine Done.step (fun _ => XS.astore X243.here hx rfl (hb hby at_151) rfl rfl (l' := #[oJ a, .second, oJ b, .second, oI c1, oI c2, oI mode, oI lens, oJ ver1, .second, oI vmo, oJ ver2, .second, oI (3 : Int32), oI (3 : Int32), oI dd, oR x1, oR x2, .unset, .unset, .unset, .unset]) rfl) ?_
          show Done _ p e below s _ _ (T243.setTop (mkF m 153 #[oJ a, .second, oJ b, .second, oI c1, oI c2, oI mode, oI lens, oJ ver1, .second, oI vmo, oJ ver2, .second, oI (3 : Int32), oI (3 : Int32), oI dd, oR x1, oR x2, .unset, .unset, .unset, .unset] []))
          refine Done.step (fun _ => XS.iload X243.here hx rfl (hb hby at_153) rfl) ?_
          show Done _ p e below s _ _ (T243.setTop (mkF m 155 #[oJ a, .second, oJ b, .second, oI c1, oI c2, oI mode, oI lens, oJ ver1, .second, oI vmo, oJ ver2, .second, oI (3 : Int32), oI (3 : Int32), oI dd, oR x1, oR x2, .unset, .unset, .unset, .unset] [(.int (3 : Int32))]))
          refine Done.step (fun _ => XS.iload X243.here hx rfl (hb hby at_155) rfl) ?_
          show Done _ p e below s _ _ (T243.setTop (mkF m 157 #[oJ a, .second, oJ b, .second, oI c1, oI c2, oI mode, oI lens, oJ ver1, .second, oI vmo, oJ ver2, .second, oI (3 : Int32), oI (3 : Int32), oI dd, oR x1, oR x2, .unset, .unset, .unset, .unset] [(.int (3 : Int32)), (.int (3 : Int32))]))
          refine Done.step (fun _ => XS.icmpNo X243.here hx rfl (hb hby at_157) rfl (XT.ii_ne_f rfl)) ?_
          show Done _ p e below s _ _ (T243.setTop (mkF m 160 #[oJ a, .second, oJ b, .second, oI c1, oI c2, oI mode, oI lens, oJ ver1, .second, oI vmo, oJ ver2, .second, oI (3 : Int32), oI (3 : Int32), oI dd, oR x1, oR x2, .unset, .unset, .unset, .unset] []))
          refine Done.step (fun _ => XS.iload X243.here hx rfl (hb hby at_160) rfl) ?_
          show Done _ p e below s _ _ (T243.setTop (mkF m 162 #[oJ a, .second, oJ b, .second, oI c1, oI c2, oI mode, oI lens, oJ ver1, .second, oI vmo, oJ ver2, .second, oI (3 : Int32), oI (3 : Int32), oI dd, oR x1, oR x2, .unset, .unset, .unset, .unset] [(.int (3 : Int32))]))
          refine Done.step (fun _ => XT.iconstV X243.here hx rfl (1 : Int32) (hb hby at_162) (by decide)) ?_
          show Done _ p e below s _ _ (T243.setTop (mkF m 163 #[oJ a, .second, oJ b, .second, oI c1, oI c2, oI mode, oI lens, oJ ver1, .second, oI vmo, oJ ver2, .second, oI (3 : Int32), oI (3 : Int32), oI dd, oR x1, oR x2, .unset, .unset, .unset, .unset] [(.int (1 : Int32)), (.int (3 : Int32))]))
          refine Done.step (fun _ => XS.icmpNo X243.here hx rfl (hb hby at_163) rfl (XT.ii_lt_f (by decide))) ?_
          show Done _ p e below s _ _ (T243.setTop (mkF m 166 #[oJ a, .second, oJ b, .second, oI c1, oI c2, oI mode, oI lens, oJ ver1, .second, oI vmo, oJ ver2, .second, oI (3 : Int32), oI (3 : Int32), oI dd, oR x1, oR x2, .unset, .unset, .unset, .unset] []))
          refine Done.step (fun _ => XS.iload X243.here hx rfl (hb hby at_166) rfl) ?_
          show Done _ p e below s _ _ (T243.setTop (mkF m 168 #[oJ a, .second, oJ b, .second, oI c1, oI c2, oI mode, oI lens, oJ ver1, .second, oI vmo, oJ ver2, .second, oI (3 : Int32), oI (3 : Int32), oI dd, oR x1, oR x2, .unset, .unset, .unset, .unset] [(.int c1)]))
          refine Done.step (fun _ => XT.iconstV X243.here hx rfl (0 : Int32) (hb hby at_168) (by decide)) ?_
          show Done _ p e below s _ _ (T243.setTop (mkF m 169 #[oJ a, .second, oJ b, .second, oI c1, oI c2, oI mode, oI lens, oJ ver1, .second, oI vmo, oJ ver2, .second, oI (3 : Int32), oI (3 : Int32), oI dd, oR x1, oR x2, .unset, .unset, .unset, .unset] [(.int (0 : Int32)), (.int c1)]))
          refine Done.callSP X243 hx hZ hown (wAt hw 13 rfl) (wAt hw 14 rfl) (wAt hw 7 rfl) (wAt hw 15 rfl) (by decide) (rmCh l Z a0 hw [] c1 (0 : Int32) T243.heap n0 Zs243) rfl (g := (mkF m 169 #[oJ a, .second, oJ b, .second, oI c1, oI c2, oI mode, oI lens, oJ ver1, .second, oI vmo, oJ ver2, .second, oI (3 : Int32), oI (3 : Int32), oI dd, oR x1, oR x2, .unset, .unset, .unset, .unset] [(.int (0 : Int32)), (.int c1)])) rfl (by rw [hml]; rfl) [(.int c1), (.int (0 : Int32))] [] 0 (lenOf pd_10 rfl) rfl rfl (by show 2 * 0 + _ ≤ _; exact Nat.le_of_eq rfl) (hb hby at_169) (by decide) (by decide) (by decide) (by decide) rfl rfl ?_
          intro T244 X244 e244
          show Done _ p e below s _ _ (T244.setTop (mkF m 172 #[oJ a, .second, oJ b, .second, oI c1, oI c2, oI mode, oI lens, oJ ver1, .second, oI vmo, oJ ver2, .second, oI (3 : Int32), oI (3 : Int32), oI dd, oR x1, oR x2, .unset, .unset, .unset, .unset] [(.int (own_ch c1 (0 : Int32)))]))
          refine Done.step (fun _ => XS.iload X244.here hx rfl (hb hby at_172) rfl) ?_
          show Done _ p e below s _ _ (T244.setTop (mkF m 174 #[oJ a, .second, oJ b, .second, oI c1, oI c2, oI mode, oI lens, oJ ver1, .second, oI vmo, oJ ver2, .second, oI (3 : Int32), oI (3 : Int32), oI dd, oR x1, oR x2, .unset, .unset, .unset, .unset] [(.int dd), (.int (own_ch c1 (0 : Int32)))]))
          refine Done.step (fun _ => XT.iconstV X244.here hx rfl (0 : Int32) (hb hby at_174) (by decide)) ?_
          show Done _ p e below s _ _ (T244.setTop (mkF m 175 #[oJ a, .second, oJ b, .second, oI c1, oI c2, oI mode, oI lens, oJ ver1, .second, oI vmo, oJ ver2, .second, oI (3 : Int32), oI (3 : Int32), oI dd, oR x1, oR x2, .unset, .unset, .unset, .unset] [(.int (0 : Int32)), (.int dd), (.int (own_ch c1 (0 : Int32)))]))
          refine Done.callSP X244 hx hZ hown (wAt hw 13 rfl) (wAt hw 14 rfl) (wAt hw 7 rfl) (wAt hw 15 rfl) (by decide) (rmCh l Z a0 hw [] dd (0 : Int32) T243.heap n0 Zs243) e244 (g := (mkF m 175 #[oJ a, .second, oJ b, .second, oI c1, oI c2, oI mode, oI lens, oJ ver1, .second, oI vmo, oJ ver2, .second, oI (3 : Int32), oI (3 : Int32), oI dd, oR x1, oR x2, .unset, .unset, .unset, .unset] [(.int (0 : Int32)), (.int dd), (.int (own_ch c1 (0 : Int32)))])) rfl (by rw [hml]; rfl) [(.int dd), (.int (0 : Int32))] [(.int (own_ch c1 (0 : Int32)))] 1 (lenOf pd_10 rfl) rfl rfl (by show 2 * 0 + _ ≤ _; exact Nat.le_of_eq rfl) (hb hby at_175) (by decide) (by decide) (by decide) (by decide) rfl rfl ?_
          intro T245 X245 e245
          show Done _ p e below s _ _ (T245.setTop (mkF m 178 #[oJ a, .second, oJ b, .second, oI c1, oI c2, oI mode, oI lens, oJ ver1, .second, oI vmo, oJ ver2, .second, oI (3 : Int32), oI (3 : Int32), oI dd, oR x1, oR x2, .unset, .unset, .unset, .unset] [(.int (own_ch dd (0 : Int32))), (.int (own_ch c1 (0 : Int32)))]))
          by_cases hc246 : (own_ch c1 (0 : Int32)) = (own_ch dd (0 : Int32))
          · refine Done.step (fun _ => XS.icmpNo X245.here hx rfl (hb hby at_178) rfl (XT.ii_ne_f hc246)) ?_
            show Done _ p e below s _ _ (T245.setTop (mkF m 181 #[oJ a, .second, oJ b, .second, oI c1, oI c2, oI mode, oI lens, oJ ver1, .second, oI vmo, oJ ver2, .second, oI (3 : Int32), oI (3 : Int32), oI dd, oR x1, oR x2, .unset, .unset, .unset, .unset] []))
            refine Done.step (fun _ => XS.iload X245.here hx rfl (hb hby at_181) rfl) ?_
            show Done _ p e below s _ _ (T245.setTop (mkF m 183 #[oJ a, .second, oJ b, .second, oI c1, oI c2, oI mode, oI lens, oJ ver1, .second, oI vmo, oJ ver2, .second, oI (3 : Int32), oI (3 : Int32), oI dd, oR x1, oR x2, .unset, .unset, .unset, .unset] [(.int (3 : Int32))]))
            refine Done.step (fun _ => XT.iconstV X245.here hx rfl (2 : Int32) (hb hby at_183) (by decide)) ?_
            show Done _ p e below s _ _ (T245.setTop (mkF m 184 #[oJ a, .second, oJ b, .second, oI c1, oI c2, oI mode, oI lens, oJ ver1, .second, oI vmo, oJ ver2, .second, oI (3 : Int32), oI (3 : Int32), oI dd, oR x1, oR x2, .unset, .unset, .unset, .unset] [(.int (2 : Int32)), (.int (3 : Int32))]))
            refine Done.step (fun _ => XS.icmpNo X245.here hx rfl (hb hby at_184) rfl (XT.ii_lt_f (by decide))) ?_
            show Done _ p e below s _ _ (T245.setTop (mkF m 187 #[oJ a, .second, oJ b, .second, oI c1, oI c2, oI mode, oI lens, oJ ver1, .second, oI vmo, oJ ver2, .second, oI (3 : Int32), oI (3 : Int32), oI dd, oR x1, oR x2, .unset, .unset, .unset, .unset] []))
            refine Done.step (fun _ => XS.iload X245.here hx rfl (hb hby at_187) rfl) ?_
            show Done _ p e below s _ _ (T245.setTop (mkF m 189 #[oJ a, .second, oJ b, .second, oI c1, oI c2, oI mode, oI lens, oJ ver1, .second, oI vmo, oJ ver2, .second, oI (3 : Int32), oI (3 : Int32), oI dd, oR x1, oR x2, .unset, .unset, .unset, .unset] [(.int c1)]))
            refine Done.step (fun _ => XT.iconstV X245.here hx rfl (1 : Int32) (hb hby at_189) (by decide)) ?_
            show Done _ p e below s _ _ (T245.setTop (mkF m 190 #[oJ a, .second, oJ b, .second, oI c1, oI c2, oI mode, oI lens, oJ ver1, .second, oI vmo, oJ ver2, .second, oI (3 : Int32), oI (3 : Int32), oI dd, oR x1, oR x2, .unset, .unset, .unset, .unset] [(.int (1 : Int32)), (.int c1)]))
            refine Done.callSP X245 hx hZ hown (wAt hw 13 rfl) (wAt hw 14 rfl) (wAt hw 7 rfl) (wAt hw 15 rfl) (by decide) (rmCh l Z a0 hw [] c1 (1 : Int32) T243.heap n0 Zs243) e245 (g := (mkF m 190 #[oJ a, .second, oJ b, .second, oI c1, oI c2, oI mode, oI lens, oJ ver1, .second, oI vmo, oJ ver2, .second, oI (3 : Int32), oI (3 : Int32), oI dd, oR x1, oR x2, .unset, .unset, .unset, .unset] [(.int (1 : Int32)), (.int c1)])) rfl (by rw [hml]; rfl) [(.int c1), (.int (1 : Int32))] [] 0 (lenOf pd_10 rfl) rfl rfl (by show 2 * 0 + _ ≤ _; exact Nat.le_of_eq rfl) (hb hby at_190) (by decide) (by decide) (by decide) (by decide) rfl rfl ?_
            intro T247 X247 e247
            show Done _ p e below s _ _ (T247.setTop (mkF m 193 #[oJ a, .second, oJ b, .second, oI c1, oI c2, oI mode, oI lens, oJ ver1, .second, oI vmo, oJ ver2, .second, oI (3 : Int32), oI (3 : Int32), oI dd, oR x1, oR x2, .unset, .unset, .unset, .unset] [(.int (own_ch c1 (1 : Int32)))]))
            refine Done.step (fun _ => XS.iload X247.here hx rfl (hb hby at_193) rfl) ?_
            show Done _ p e below s _ _ (T247.setTop (mkF m 195 #[oJ a, .second, oJ b, .second, oI c1, oI c2, oI mode, oI lens, oJ ver1, .second, oI vmo, oJ ver2, .second, oI (3 : Int32), oI (3 : Int32), oI dd, oR x1, oR x2, .unset, .unset, .unset, .unset] [(.int dd), (.int (own_ch c1 (1 : Int32)))]))
            refine Done.step (fun _ => XT.iconstV X247.here hx rfl (1 : Int32) (hb hby at_195) (by decide)) ?_
            show Done _ p e below s _ _ (T247.setTop (mkF m 196 #[oJ a, .second, oJ b, .second, oI c1, oI c2, oI mode, oI lens, oJ ver1, .second, oI vmo, oJ ver2, .second, oI (3 : Int32), oI (3 : Int32), oI dd, oR x1, oR x2, .unset, .unset, .unset, .unset] [(.int (1 : Int32)), (.int dd), (.int (own_ch c1 (1 : Int32)))]))
            refine Done.callSP X247 hx hZ hown (wAt hw 13 rfl) (wAt hw 14 rfl) (wAt hw 7 rfl) (wAt hw 15 rfl) (by decide) (rmCh l Z a0 hw [] dd (1 : Int32) T243.heap n0 Zs243) e247 (g := (mkF m 196 #[oJ a, .second, oJ b, .second, oI c1, oI c2, oI mode, oI lens, oJ ver1, .second, oI vmo, oJ ver2, .second, oI (3 : Int32), oI (3 : Int32), oI dd, oR x1, oR x2, .unset, .unset, .unset, .unset] [(.int (1 : Int32)), (.int dd), (.int (own_ch c1 (1 : Int32)))])) rfl (by rw [hml]; rfl) [(.int dd), (.int (1 : Int32))] [(.int (own_ch c1 (1 : Int32)))] 1 (lenOf pd_10 rfl) rfl rfl (by show 2 * 0 + _ ≤ _; exact Nat.le_of_eq rfl) (hb hby at_196) (by decide) (by decide) (by decide) (by decide) rfl rfl ?_
            intro T248 X248 e248
            show Done _ p e below s _ _ (T248.setTop (mkF m 199 #[oJ a, .second, oJ b, .second, oI c1, oI c2, oI mode, oI lens, oJ ver1, .second, oI vmo, oJ ver2, .second, oI (3 : Int32), oI (3 : Int32), oI dd, oR x1, oR x2, .unset, .unset, .unset, .unset] [(.int (own_ch dd (1 : Int32))), (.int (own_ch c1 (1 : Int32)))]))
            by_cases hc249 : (own_ch c1 (1 : Int32)) = (own_ch dd (1 : Int32))
            · refine Done.step (fun _ => XS.icmpNo X248.here hx rfl (hb hby at_199) rfl (XT.ii_ne_f hc249)) ?_
              show Done _ p e below s _ _ (T248.setTop (mkF m 202 #[oJ a, .second, oJ b, .second, oI c1, oI c2, oI mode, oI lens, oJ ver1, .second, oI vmo, oJ ver2, .second, oI (3 : Int32), oI (3 : Int32), oI dd, oR x1, oR x2, .unset, .unset, .unset, .unset] []))
              refine Done.step (fun _ => XS.iload X248.here hx rfl (hb hby at_202) rfl) ?_
              show Done _ p e below s _ _ (T248.setTop (mkF m 204 #[oJ a, .second, oJ b, .second, oI c1, oI c2, oI mode, oI lens, oJ ver1, .second, oI vmo, oJ ver2, .second, oI (3 : Int32), oI (3 : Int32), oI dd, oR x1, oR x2, .unset, .unset, .unset, .unset] [(.int (3 : Int32))]))
              refine Done.step (fun _ => XT.iconstV X248.here hx rfl (3 : Int32) (hb hby at_204) (by decide)) ?_
              show Done _ p e below s _ _ (T248.setTop (mkF m 205 #[oJ a, .second, oJ b, .second, oI c1, oI c2, oI mode, oI lens, oJ ver1, .second, oI vmo, oJ ver2, .second, oI (3 : Int32), oI (3 : Int32), oI dd, oR x1, oR x2, .unset, .unset, .unset, .unset] [(.int (3 : Int32)), (.int (3 : Int32))]))
              refine Done.step (fun _ => XS.icmpNo X248.here hx rfl (hb hby at_205) rfl (XT.ii_lt_f (by decide))) ?_
              show Done _ p e below s _ _ (T248.setTop (mkF m 208 #[oJ a, .second, oJ b, .second, oI c1, oI c2, oI mode, oI lens, oJ ver1, .second, oI vmo, oJ ver2, .second, oI (3 : Int32), oI (3 : Int32), oI dd, oR x1, oR x2, .unset, .unset, .unset, .unset] []))
              refine Done.step (fun _ => XS.iload X248.here hx rfl (hb hby at_208) rfl) ?_
              show Done _ p e below s _ _ (T248.setTop (mkF m 210 #[oJ a, .second, oJ b, .second, oI c1, oI c2, oI mode, oI lens, oJ ver1, .second, oI vmo, oJ ver2, .second, oI (3 : Int32), oI (3 : Int32), oI dd, oR x1, oR x2, .unset, .unset, .unset, .unset] [(.int c1)]))
              refine Done.step (fun _ => XT.iconstV X248.here hx rfl (2 : Int32) (hb hby at_210) (by decide)) ?_
              show Done _ p e below s _ _ (T248.setTop (mkF m 211 #[oJ a, .second, oJ b, .second, oI c1, oI c2, oI mode, oI lens, oJ ver1, .second, oI vmo, oJ ver2, .second, oI (3 : Int32), oI (3 : Int32), oI dd, oR x1, oR x2, .unset, .unset, .unset, .unset] [(.int (2 : Int32)), (.int c1)]))
              refine Done.callSP X248 hx hZ hown (wAt hw 13 rfl) (wAt hw 14 rfl) (wAt hw 7 rfl) (wAt hw 15 rfl) (by decide) (rmCh l Z a0 hw [] c1 (2 : Int32) T243.heap n0 Zs243) e248 (g := (mkF m 211 #[oJ a, .second, oJ b, .second, oI c1, oI c2, oI mode, oI lens, oJ ver1, .second, oI vmo, oJ ver2, .second, oI (3 : Int32), oI (3 : Int32), oI dd, oR x1, oR x2, .unset, .unset, .unset, .unset] [(.int (2 : Int32)), (.int c1)])) rfl (by rw [hml]; rfl) [(.int c1), (.int (2 : Int32))] [] 0 (lenOf pd_10 rfl) rfl rfl (by show 2 * 0 + _ ≤ _; exact Nat.le_of_eq rfl) (hb hby at_211) (by decide) (by decide) (by decide) (by decide) rfl rfl ?_
              intro T250 X250 e250
              show Done _ p e below s _ _ (T250.setTop (mkF m 214 #[oJ a, .second, oJ b, .second, oI c1, oI c2, oI mode, oI lens, oJ ver1, .second, oI vmo, oJ ver2, .second, oI (3 : Int32), oI (3 : Int32), oI dd, oR x1, oR x2, .unset, .unset, .unset, .unset] [(.int (own_ch c1 (2 : Int32)))]))
              refine Done.step (fun _ => XS.iload X250.here hx rfl (hb hby at_214) rfl) ?_
              show Done _ p e below s _ _ (T250.setTop (mkF m 216 #[oJ a, .second, oJ b, .second, oI c1, oI c2, oI mode, oI lens, oJ ver1, .second, oI vmo, oJ ver2, .second, oI (3 : Int32), oI (3 : Int32), oI dd, oR x1, oR x2, .unset, .unset, .unset, .unset] [(.int dd), (.int (own_ch c1 (2 : Int32)))]))
              refine Done.step (fun _ => XT.iconstV X250.here hx rfl (2 : Int32) (hb hby at_216) (by decide)) ?_
              show Done _ p e below s _ _ (T250.setTop (mkF m 217 #[oJ a, .second, oJ b, .second, oI c1, oI c2, oI mode, oI lens, oJ ver1, .second, oI vmo, oJ ver2, .second, oI (3 : Int32), oI (3 : Int32), oI dd, oR x1, oR x2, .unset, .unset, .unset, .unset] [(.int (2 : Int32)), (.int dd), (.int (own_ch c1 (2 : Int32)))]))
              refine Done.callSP X250 hx hZ hown (wAt hw 13 rfl) (wAt hw 14 rfl) (wAt hw 7 rfl) (wAt hw 15 rfl) (by decide) (rmCh l Z a0 hw [] dd (2 : Int32) T243.heap n0 Zs243) e250 (g := (mkF m 217 #[oJ a, .second, oJ b, .second, oI c1, oI c2, oI mode, oI lens, oJ ver1, .second, oI vmo, oJ ver2, .second, oI (3 : Int32), oI (3 : Int32), oI dd, oR x1, oR x2, .unset, .unset, .unset, .unset] [(.int (2 : Int32)), (.int dd), (.int (own_ch c1 (2 : Int32)))])) rfl (by rw [hml]; rfl) [(.int dd), (.int (2 : Int32))] [(.int (own_ch c1 (2 : Int32)))] 1 (lenOf pd_10 rfl) rfl rfl (by show 2 * 0 + _ ≤ _; exact Nat.le_of_eq rfl) (hb hby at_217) (by decide) (by decide) (by decide) (by decide) rfl rfl ?_
              intro T251 X251 e251
              show Done _ p e below s _ _ (T251.setTop (mkF m 220 #[oJ a, .second, oJ b, .second, oI c1, oI c2, oI mode, oI lens, oJ ver1, .second, oI vmo, oJ ver2, .second, oI (3 : Int32), oI (3 : Int32), oI dd, oR x1, oR x2, .unset, .unset, .unset, .unset] [(.int (own_ch dd (2 : Int32))), (.int (own_ch c1 (2 : Int32)))]))
              by_cases hc252 : (own_ch c1 (2 : Int32)) = (own_ch dd (2 : Int32))
              · refine Done.step (fun _ => XS.icmpNo X251.here hx rfl (hb hby at_220) rfl (XT.ii_ne_f hc252)) ?_
                show Done _ p e below s _ _ (T251.setTop (mkF m 223 #[oJ a, .second, oJ b, .second, oI c1, oI c2, oI mode, oI lens, oJ ver1, .second, oI vmo, oJ ver2, .second, oI (3 : Int32), oI (3 : Int32), oI dd, oR x1, oR x2, .unset, .unset, .unset, .unset] []))
                refine Done.step (fun _ => XT.iconstV X251.here hx rfl (1 : Int32) (hb hby at_223) (by decide)) ?_
                show Done _ p e below s _ _ (T251.setTop (mkF m 224 #[oJ a, .second, oJ b, .second, oI c1, oI c2, oI mode, oI lens, oJ ver1, .second, oI vmo, oJ ver2, .second, oI (3 : Int32), oI (3 : Int32), oI dd, oR x1, oR x2, .unset, .unset, .unset, .unset] [(.int (1 : Int32))]))
                refine Done.step (fun _ => XS.goto X251.here hx rfl (pc0 := 224) (pc' := 228) rfl (hb hby at_224) (by decide) (by decide)) ?_
                show Done _ p e below s _ _ (T251.setTop (mkF m 228 #[oJ a, .second, oJ b, .second, oI c1, oI c2, oI mode, oI lens, oJ ver1, .second, oI vmo, oJ ver2, .second, oI (3 : Int32), oI (3 : Int32), oI dd, oR x1, oR x2, .unset, .unset, .unset, .unset] [(.int (1 : Int32))]))
                refine Done.step (fun _ => XS.istore X251.here hx rfl (hb hby at_228) rfl (l' := #[oJ a, .second, oJ b, .second, oI c1, oI c2, oI mode, oI lens, oJ ver1, .second, oI vmo, oJ ver2, .second, oI (3 : Int32), oI (3 : Int32), oI dd, oR x1, oR x2, oI (1 : Int32), .unset, .unset, .unset]) rfl) ?_
                show Done _ p e below s _ _ (T251.setTop (mkF m 230 #[oJ a, .second, oJ b, .second, oI c1, oI c2, oI mode, oI lens, oJ ver1, .second, oI vmo, oJ ver2, .second, oI (3 : Int32), oI (3 : Int32), oI dd, oR x1, oR x2, oI (1 : Int32), .unset, .unset, .unset] []))
                refine Done.step (fun _ => XT.lload X251.here hx rfl (hb hby at_230) rfl) ?_
                show Done _ p e below s _ _ (T251.setTop (mkF m 232 #[oJ a, .second, oJ b, .second, oI c1, oI c2, oI mode, oI lens, oJ ver1, .second, oI vmo, oJ ver2, .second, oI (3 : Int32), oI (3 : Int32), oI dd, oR x1, oR x2, oI (1 : Int32), .unset, .unset, .unset] [(.long ver1)]))
                refine Done.step (fun _ => XT.lload X251.here hx rfl (hb hby at_232) rfl) ?_
                show Done _ p e below s _ _ (T251.setTop (mkF m 234 #[oJ a, .second, oJ b, .second, oI c1, oI c2, oI mode, oI lens, oJ ver1, .second, oI vmo, oJ ver2, .second, oI (3 : Int32), oI (3 : Int32), oI dd, oR x1, oR x2, oI (1 : Int32), .unset, .unset, .unset] [(.long ver2), (.long ver1)]))
                refine Done.step (fun _ => XT.lcmp X251.here hx rfl (hb hby at_234) rfl) ?_
                show Done _ p e below s _ _ (T251.setTop (mkF m 235 #[oJ a, .second, oJ b, .second, oI c1, oI c2, oI mode, oI lens, oJ ver1, .second, oI vmo, oJ ver2, .second, oI (3 : Int32), oI (3 : Int32), oI dd, oR x1, oR x2, oI (1 : Int32), .unset, .unset, .unset] [(.int (XT.cmpL ver1 ver2))]))
                by_cases hc253 : ver1 = ver2
                · refine Done.step (fun _ => XS.ifNo X251.here hx rfl (hb hby at_235) rfl (XT.ll_ne_f hc253)) ?_
                  show Done _ p e below s _ _ (T251.setTop (mkF m 238 #[oJ a, .second, oJ b, .second, oI c1, oI c2, oI mode, oI lens, oJ ver1, .second, oI vmo, oJ ver2, .second, oI (3 : Int32), oI (3 : Int32), oI dd, oR x1, oR x2, oI (1 : Int32), .unset, .unset, .unset] []))
                  refine Done.step (fun _ => XS.iload X251.here hx rfl (hb hby at_238) rfl) ?_
                  show Done _ p e below s _ _ (T251.setTop (mkF m 240 #[oJ a, .second, oJ b, .second, oI c1, oI c2, oI mode, oI lens, oJ ver1, .second, oI vmo, oJ ver2, .second, oI (3 : Int32), oI (3 : Int32), oI dd, oR x1, oR x2, oI (1 : Int32), .unset, .unset, .unset] [(.int (1 : Int32))]))
                  refine Done.step (fun _ => XS.ifNo X251.here hx rfl (hb hby at_240) rfl (XT.i0_eq_f (by decide))) ?_
                  show Done _ p e below s _ _ (T251.setTop (mkF m 243 #[oJ a, .second, oJ b, .second, oI c1, oI c2, oI mode, oI lens, oJ ver1, .second, oI vmo, oJ ver2, .second, oI (3 : Int32), oI (3 : Int32), oI dd, oR x1, oR x2, oI (1 : Int32), .unset, .unset, .unset] []))
                  refine Done.step (fun _ => XT.iconstV X251.here hx rfl (1 : Int32) (hb hby at_243) (by decide)) ?_
                  show Done _ p e below s _ _ (T251.setTop (mkF m 244 #[oJ a, .second, oJ b, .second, oI c1, oI c2, oI mode, oI lens, oJ ver1, .second, oI vmo, oJ ver2, .second, oI (3 : Int32), oI (3 : Int32), oI dd, oR x1, oR x2, oI (1 : Int32), .unset, .unset, .unset] [(.int (1 : Int32))]))
                  refine Done.step (fun _ => XS.goto X251.here hx rfl (pc0 := 244) (pc' := 248) rfl (hb hby at_244) (by decide) (by decide)) ?_
                  show Done _ p e below s _ _ (T251.setTop (mkF m 248 #[oJ a, .second, oJ b, .second, oI c1, oI c2, oI mode, oI lens, oJ ver1, .second, oI vmo, oJ ver2, .second, oI (3 : Int32), oI (3 : Int32), oI dd, oR x1, oR x2, oI (1 : Int32), .unset, .unset, .unset] [(.int (1 : Int32))]))
                  refine Done.step (fun _ => XS.istore X251.here hx rfl (hb hby at_248) rfl (l' := #[oJ a, .second, oJ b, .second, oI c1, oI c2, oI mode, oI lens, oJ ver1, .second, oI vmo, oJ ver2, .second, oI (3 : Int32), oI (3 : Int32), oI dd, oR x1, oR x2, oI (1 : Int32), oI (1 : Int32), .unset, .unset]) rfl) ?_
                  show Done _ p e below s _ _ (T251.setTop (mkF m 250 #[oJ a, .second, oJ b, .second, oI c1, oI c2, oI mode, oI lens, oJ ver1, .second, oI vmo, oJ ver2, .second, oI (3 : Int32), oI (3 : Int32), oI dd, oR x1, oR x2, oI (1 : Int32), oI (1 : Int32), .unset, .unset] []))
                  have f254 := (f242.keep K243q all0)
                  have f255 := (Em1.keep K243q)
                  have f256 := (Vm1.keep K243q nin0)
                  have f257 := (Cm1.keep K243q nin0)
                  have f258 := (Km1.keep K243q nin0)
                  exact tl250 Z a0 hw a b ver1 ver2 c1 c2 mode lens vmo (3 : Int32) (3 : Int32) dd (1 : Int32) (1 : Int32) x1 t1 kb1 ([own_ch c1 (0 : Int32), own_ch c1 (1 : Int32), own_ch c1 (2 : Int32)] : List Int32) x2 t2 kb2 ([own_ch dd (0 : Int32), own_ch dd (1 : Int32), own_ch dd (2 : Int32)] : List Int32) z fm T243.heap n0 Zs243 f254 SC hz SF rF f255 f256 f257 f258 Em2 Vm2 Cm2 Km2 (fun c hc => (List.mem_cons.mp hc).elim (fun e => e ▸ own_chb c1 (0 : Int32)) ((fun c hc => (List.mem_cons.mp hc).elim (fun e => e ▸ own_chb c1 (1 : Int32)) ((fun c hc => (List.mem_cons.mp hc).elim (fun e => e ▸ own_chb c1 (2 : Int32)) ((fun c hc => absurd hc List.not_mem_nil) c)) c)) c)) (Nat.le_of_ble_eq_true rfl) (fun c hc => (List.mem_cons.mp hc).elim (fun e => e ▸ own_chb dd (0 : Int32)) ((fun c hc => (List.mem_cons.mp hc).elim (fun e => e ▸ own_chb dd (1 : Int32)) ((fun c hc => (List.mem_cons.mp hc).elim (fun e => e ▸ own_chb dd (2 : Int32)) ((fun c hc => absurd hc List.not_mem_nil) c)) c)) c)) (Nat.le_of_ble_eq_true rfl) hv1 hv2 (bP_t ⟨hc253.symm, (own_L3 _ _ _ _ _ _).mpr ⟨hc246, hc249, hc252⟩⟩).symm hx hby hml hown hret hlk hZ hS hk e251 (X251.mono (by decide) (by decide)) N243
                · refine Done.step (fun _ => XS.ifYes X251.here hx rfl (pc0 := 235) (pc' := 247) rfl (hb hby at_235) rfl (XT.ll_ne_t hc253) (by decide) (by decide)) ?_
                  show Done _ p e below s _ _ (T251.setTop (mkF m 247 #[oJ a, .second, oJ b, .second, oI c1, oI c2, oI mode, oI lens, oJ ver1, .second, oI vmo, oJ ver2, .second, oI (3 : Int32), oI (3 : Int32), oI dd, oR x1, oR x2, oI (1 : Int32), .unset, .unset, .unset] []))
                  refine Done.step (fun _ => XT.iconstV X251.here hx rfl (0 : Int32) (hb hby at_247) (by decide)) ?_
                  show Done _ p e below s _ _ (T251.setTop (mkF m 248 #[oJ a, .second, oJ b, .second, oI c1, oI c2, oI mode, oI lens, oJ ver1, .second, oI vmo, oJ ver2, .second, oI (3 : Int32), oI (3 : Int32), oI dd, oR x1, oR x2, oI (1 : Int32), .unset, .unset, .unset] [(.int (0 : Int32))]))
                  refine Done.step (fun _ => XS.istore X251.here hx rfl (hb hby at_248) rfl (l' := #[oJ a, .second, oJ b, .second, oI c1, oI c2, oI mode, oI lens, oJ ver1, .second, oI vmo, oJ ver2, .second, oI (3 : Int32), oI (3 : Int32), oI dd, oR x1, oR x2, oI (1 : Int32), oI (0 : Int32), .unset, .unset]) rfl) ?_
                  show Done _ p e below s _ _ (T251.setTop (mkF m 250 #[oJ a, .second, oJ b, .second, oI c1, oI c2, oI mode, oI lens, oJ ver1, .second, oI vmo, oJ ver2, .second, oI (3 : Int32), oI (3 : Int32), oI dd, oR x1, oR x2, oI (1 : Int32), oI (0 : Int32), .unset, .unset] []))
                  have f259 := (f242.keep K243q all0)
                  have f260 := (Em1.keep K243q)
                  have f261 := (Vm1.keep K243q nin0)
                  have f262 := (Cm1.keep K243q nin0)
                  have f263 := (Km1.keep K243q nin0)
                  exact tl250 Z a0 hw a b ver1 ver2 c1 c2 mode lens vmo (3 : Int32) (3 : Int32) dd (1 : Int32) (0 : Int32) x1 t1 kb1 ([own_ch c1 (0 : Int32), own_ch c1 (1 : Int32), own_ch c1 (2 : Int32)] : List Int32) x2 t2 kb2 ([own_ch dd (0 : Int32), own_ch dd (1 : Int32), own_ch dd (2 : Int32)] : List Int32) z fm T243.heap n0 Zs243 f259 SC hz SF rF f260 f261 f262 f263 Em2 Vm2 Cm2 Km2 (fun c hc => (List.mem_cons.mp hc).elim (fun e => e ▸ own_chb c1 (0 : Int32)) ((fun c hc => (List.mem_cons.mp hc).elim (fun e => e ▸ own_chb c1 (1 : Int32)) ((fun c hc => (List.mem_cons.mp hc).elim (fun e => e ▸ own_chb c1 (2 : Int32)) ((fun c hc => absurd hc List.not_mem_nil) c)) c)) c)) (Nat.le_of_ble_eq_true rfl) (fun c hc => (List.mem_cons.mp hc).elim (fun e => e ▸ own_chb dd (0 : Int32)) ((fun c hc => (List.mem_cons.mp hc).elim (fun e => e ▸ own_chb dd (1 : Int32)) ((fun c hc => (List.mem_cons.mp hc).elim (fun e => e ▸ own_chb dd (2 : Int32)) ((fun c hc => absurd hc List.not_mem_nil) c)) c)) c)) (Nat.le_of_ble_eq_true rfl) hv1 hv2 (bP_f (fun q => hc253 q.1.symm)).symm hx hby hml hown hret hlk hZ hS hk e251 (X251.mono (by decide) (by decide)) N243
              · refine Done.step (fun _ => XS.icmpYes X251.here hx rfl (pc0 := 220) (pc' := 227) rfl (hb hby at_220) rfl (XT.ii_ne_t hc252) (by decide) (by decide)) ?_
                show Done _ p e below s _ _ (T251.setTop (mkF m 227 #[oJ a, .second, oJ b, .second, oI c1, oI c2, oI mode, oI lens, oJ ver1, .second, oI vmo, oJ ver2, .second, oI (3 : Int32), oI (3 : Int32), oI dd, oR x1, oR x2, .unset, .unset, .unset, .unset] []))
                refine Done.step (fun _ => XT.iconstV X251.here hx rfl (0 : Int32) (hb hby at_227) (by decide)) ?_
                show Done _ p e below s _ _ (T251.setTop (mkF m 228 #[oJ a, .second, oJ b, .second, oI c1, oI c2, oI mode, oI lens, oJ ver1, .second, oI vmo, oJ ver2, .second, oI (3 : Int32), oI (3 : Int32), oI dd, oR x1, oR x2, .unset, .unset, .unset, .unset] [(.int (0 : Int32))]))
                refine Done.step (fun _ => XS.istore X251.here hx rfl (hb hby at_228) rfl (l' := #[oJ a, .second, oJ b, .second, oI c1, oI c2, oI mode, oI lens, oJ ver1, .second, oI vmo, oJ ver2, .second, oI (3 : Int32), oI (3 : Int32), oI dd, oR x1, oR x2, oI (0 : Int32), .unset, .unset, .unset]) rfl) ?_
                show Done _ p e below s _ _ (T251.setTop (mkF m 230 #[oJ a, .second, oJ b, .second, oI c1, oI c2, oI mode, oI lens, oJ ver1, .second, oI vmo, oJ ver2, .second, oI (3 : Int32), oI (3 : Int32), oI dd, oR x1, oR x2, oI (0 : Int32), .unset, .unset, .unset] []))
                refine Done.step (fun _ => XT.lload X251.here hx rfl (hb hby at_230) rfl) ?_
                show Done _ p e below s _ _ (T251.setTop (mkF m 232 #[oJ a, .second, oJ b, .second, oI c1, oI c2, oI mode, oI lens, oJ ver1, .second, oI vmo, oJ ver2, .second, oI (3 : Int32), oI (3 : Int32), oI dd, oR x1, oR x2, oI (0 : Int32), .unset, .unset, .unset] [(.long ver1)]))
                refine Done.step (fun _ => XT.lload X251.here hx rfl (hb hby at_232) rfl) ?_
                show Done _ p e below s _ _ (T251.setTop (mkF m 234 #[oJ a, .second, oJ b, .second, oI c1, oI c2, oI mode, oI lens, oJ ver1, .second, oI vmo, oJ ver2, .second, oI (3 : Int32), oI (3 : Int32), oI dd, oR x1, oR x2, oI (0 : Int32), .unset, .unset, .unset] [(.long ver2), (.long ver1)]))
                refine Done.step (fun _ => XT.lcmp X251.here hx rfl (hb hby at_234) rfl) ?_
                show Done _ p e below s _ _ (T251.setTop (mkF m 235 #[oJ a, .second, oJ b, .second, oI c1, oI c2, oI mode, oI lens, oJ ver1, .second, oI vmo, oJ ver2, .second, oI (3 : Int32), oI (3 : Int32), oI dd, oR x1, oR x2, oI (0 : Int32), .unset, .unset, .unset] [(.int (XT.cmpL ver1 ver2))]))
                by_cases hc264 : ver1 = ver2
                · refine Done.step (fun _ => XS.ifNo X251.here hx rfl (hb hby at_235) rfl (XT.ll_ne_f hc264)) ?_
                  show Done _ p e below s _ _ (T251.setTop (mkF m 238 #[oJ a, .second, oJ b, .second, oI c1, oI c2, oI mode, oI lens, oJ ver1, .second, oI vmo, oJ ver2, .second, oI (3 : Int32), oI (3 : Int32), oI dd, oR x1, oR x2, oI (0 : Int32), .unset, .unset, .unset] []))
                  refine Done.step (fun _ => XS.iload X251.here hx rfl (hb hby at_238) rfl) ?_
                  show Done _ p e below s _ _ (T251.setTop (mkF m 240 #[oJ a, .second, oJ b, .second, oI c1, oI c2, oI mode, oI lens, oJ ver1, .second, oI vmo, oJ ver2, .second, oI (3 : Int32), oI (3 : Int32), oI dd, oR x1, oR x2, oI (0 : Int32), .unset, .unset, .unset] [(.int (0 : Int32))]))
                  refine Done.step (fun _ => XS.ifYes X251.here hx rfl (pc0 := 240) (pc' := 247) rfl (hb hby at_240) rfl (XT.i0_eq_t rfl) (by decide) (by decide)) ?_
                  show Done _ p e below s _ _ (T251.setTop (mkF m 247 #[oJ a, .second, oJ b, .second, oI c1, oI c2, oI mode, oI lens, oJ ver1, .second, oI vmo, oJ ver2, .second, oI (3 : Int32), oI (3 : Int32), oI dd, oR x1, oR x2, oI (0 : Int32), .unset, .unset, .unset] []))
                  refine Done.step (fun _ => XT.iconstV X251.here hx rfl (0 : Int32) (hb hby at_247) (by decide)) ?_
                  show Done _ p e below s _ _ (T251.setTop (mkF m 248 #[oJ a, .second, oJ b, .second, oI c1, oI c2, oI mode, oI lens, oJ ver1, .second, oI vmo, oJ ver2, .second, oI (3 : Int32), oI (3 : Int32), oI dd, oR x1, oR x2, oI (0 : Int32), .unset, .unset, .unset] [(.int (0 : Int32))]))
                  refine Done.step (fun _ => XS.istore X251.here hx rfl (hb hby at_248) rfl (l' := #[oJ a, .second, oJ b, .second, oI c1, oI c2, oI mode, oI lens, oJ ver1, .second, oI vmo, oJ ver2, .second, oI (3 : Int32), oI (3 : Int32), oI dd, oR x1, oR x2, oI (0 : Int32), oI (0 : Int32), .unset, .unset]) rfl) ?_
                  show Done _ p e below s _ _ (T251.setTop (mkF m 250 #[oJ a, .second, oJ b, .second, oI c1, oI c2, oI mode, oI lens, oJ ver1, .second, oI vmo, oJ ver2, .second, oI (3 : Int32), oI (3 : Int32), oI dd, oR x1, oR x2, oI (0 : Int32), oI (0 : Int32), .unset, .unset] []))
                  have f265 := (f242.keep K243q all0)
                  have f266 := (Em1.keep K243q)
                  have f267 := (Vm1.keep K243q nin0)
                  have f268 := (Cm1.keep K243q nin0)
                  have f269 := (Km1.keep K243q nin0)
                  exact tl250 Z a0 hw a b ver1 ver2 c1 c2 mode lens vmo (3 : Int32) (3 : Int32) dd (0 : Int32) (0 : Int32) x1 t1 kb1 ([own_ch c1 (0 : Int32), own_ch c1 (1 : Int32), own_ch c1 (2 : Int32)] : List Int32) x2 t2 kb2 ([own_ch dd (0 : Int32), own_ch dd (1 : Int32), own_ch dd (2 : Int32)] : List Int32) z fm T243.heap n0 Zs243 f265 SC hz SF rF f266 f267 f268 f269 Em2 Vm2 Cm2 Km2 (fun c hc => (List.mem_cons.mp hc).elim (fun e => e ▸ own_chb c1 (0 : Int32)) ((fun c hc => (List.mem_cons.mp hc).elim (fun e => e ▸ own_chb c1 (1 : Int32)) ((fun c hc => (List.mem_cons.mp hc).elim (fun e => e ▸ own_chb c1 (2 : Int32)) ((fun c hc => absurd hc List.not_mem_nil) c)) c)) c)) (Nat.le_of_ble_eq_true rfl) (fun c hc => (List.mem_cons.mp hc).elim (fun e => e ▸ own_chb dd (0 : Int32)) ((fun c hc => (List.mem_cons.mp hc).elim (fun e => e ▸ own_chb dd (1 : Int32)) ((fun c hc => (List.mem_cons.mp hc).elim (fun e => e ▸ own_chb dd (2 : Int32)) ((fun c hc => absurd hc List.not_mem_nil) c)) c)) c)) (Nat.le_of_ble_eq_true rfl) hv1 hv2 (bP_f (fun q => hc252 ((own_L3 _ _ _ _ _ _).mp q.2).2.2)).symm hx hby hml hown hret hlk hZ hS hk e251 (X251.mono (by decide) (by decide)) N243
                · refine Done.step (fun _ => XS.ifYes X251.here hx rfl (pc0 := 235) (pc' := 247) rfl (hb hby at_235) rfl (XT.ll_ne_t hc264) (by decide) (by decide)) ?_
                  show Done _ p e below s _ _ (T251.setTop (mkF m 247 #[oJ a, .second, oJ b, .second, oI c1, oI c2, oI mode, oI lens, oJ ver1, .second, oI vmo, oJ ver2, .second, oI (3 : Int32), oI (3 : Int32), oI dd, oR x1, oR x2, oI (0 : Int32), .unset, .unset, .unset] []))
                  refine Done.step (fun _ => XT.iconstV X251.here hx rfl (0 : Int32) (hb hby at_247) (by decide)) ?_
                  show Done _ p e below s _ _ (T251.setTop (mkF m 248 #[oJ a, .second, oJ b, .second, oI c1, oI c2, oI mode, oI lens, oJ ver1, .second, oI vmo, oJ ver2, .second, oI (3 : Int32), oI (3 : Int32), oI dd, oR x1, oR x2, oI (0 : Int32), .unset, .unset, .unset] [(.int (0 : Int32))]))
                  refine Done.step (fun _ => XS.istore X251.here hx rfl (hb hby at_248) rfl (l' := #[oJ a, .second, oJ b, .second, oI c1, oI c2, oI mode, oI lens, oJ ver1, .second, oI vmo, oJ ver2, .second, oI (3 : Int32), oI (3 : Int32), oI dd, oR x1, oR x2, oI (0 : Int32), oI (0 : Int32), .unset, .unset]) rfl) ?_
                  show Done _ p e below s _ _ (T251.setTop (mkF m 250 #[oJ a, .second, oJ b, .second, oI c1, oI c2, oI mode, oI lens, oJ ver1, .second, oI vmo, oJ ver2, .second, oI (3 : Int32), oI (3 : Int32), oI dd, oR x1, oR x2, oI (0 : Int32), oI (0 : Int32), .unset, .unset] []))
                  have f270 := (f242.keep K243q all0)
                  have f271 := (Em1.keep K243q)
                  have f272 := (Vm1.keep K243q nin0)
                  have f273 := (Cm1.keep K243q nin0)
                  have f274 := (Km1.keep K243q nin0)
                  exact tl250 Z a0 hw a b ver1 ver2 c1 c2 mode lens vmo (3 : Int32) (3 : Int32) dd (0 : Int32) (0 : Int32) x1 t1 kb1 ([own_ch c1 (0 : Int32), own_ch c1 (1 : Int32), own_ch c1 (2 : Int32)] : List Int32) x2 t2 kb2 ([own_ch dd (0 : Int32), own_ch dd (1 : Int32), own_ch dd (2 : Int32)] : List Int32) z fm T243.heap n0 Zs243 f270 SC hz SF rF f271 f272 f273 f274 Em2 Vm2 Cm2 Km2 (fun c hc => (List.mem_cons.mp hc).elim (fun e => e ▸ own_chb c1 (0 : Int32)) ((fun c hc => (List.mem_cons.mp hc).elim (fun e => e ▸ own_chb c1 (1 : Int32)) ((fun c hc => (List.mem_cons.mp hc).elim (fun e => e ▸ own_chb c1 (2 : Int32)) ((fun c hc => absurd hc List.not_mem_nil) c)) c)) c)) (Nat.le_of_ble_eq_true rfl) (fun c hc => (List.mem_cons.mp hc).elim (fun e => e ▸ own_chb dd (0 : Int32)) ((fun c hc => (List.mem_cons.mp hc).elim (fun e => e ▸ own_chb dd (1 : Int32)) ((fun c hc => (List.mem_cons.mp hc).elim (fun e => e ▸ own_chb dd (2 : Int32)) ((fun c hc => absurd hc List.not_mem_nil) c)) c)) c)) (Nat.le_of_ble_eq_true rfl) hv1 hv2 (bP_f (fun q => hc264 q.1.symm)).symm hx hby hml hown hret hlk hZ hS hk e251 (X251.mono (by decide) (by decide)) N243
            · refine Done.step (fun _ => XS.icmpYes X248.here hx rfl (pc0 := 199) (pc' := 227) rfl (hb hby at_199) rfl (XT.ii_ne_t hc249) (by decide) (by decide)) ?_
              show Done _ p e below s _ _ (T248.setTop (mkF m 227 #[oJ a, .second, oJ b, .second, oI c1, oI c2, oI mode, oI lens, oJ ver1, .second, oI vmo, oJ ver2, .second, oI (3 : Int32), oI (3 : Int32), oI dd, oR x1, oR x2, .unset, .unset, .unset, .unset] []))
              refine Done.step (fun _ => XT.iconstV X248.here hx rfl (0 : Int32) (hb hby at_227) (by decide)) ?_
              show Done _ p e below s _ _ (T248.setTop (mkF m 228 #[oJ a, .second, oJ b, .second, oI c1, oI c2, oI mode, oI lens, oJ ver1, .second, oI vmo, oJ ver2, .second, oI (3 : Int32), oI (3 : Int32), oI dd, oR x1, oR x2, .unset, .unset, .unset, .unset] [(.int (0 : Int32))]))
              refine Done.step (fun _ => XS.istore X248.here hx rfl (hb hby at_228) rfl (l' := #[oJ a, .second, oJ b, .second, oI c1, oI c2, oI mode, oI lens, oJ ver1, .second, oI vmo, oJ ver2, .second, oI (3 : Int32), oI (3 : Int32), oI dd, oR x1, oR x2, oI (0 : Int32), .unset, .unset, .unset]) rfl) ?_
              show Done _ p e below s _ _ (T248.setTop (mkF m 230 #[oJ a, .second, oJ b, .second, oI c1, oI c2, oI mode, oI lens, oJ ver1, .second, oI vmo, oJ ver2, .second, oI (3 : Int32), oI (3 : Int32), oI dd, oR x1, oR x2, oI (0 : Int32), .unset, .unset, .unset] []))
              refine Done.step (fun _ => XT.lload X248.here hx rfl (hb hby at_230) rfl) ?_
              show Done _ p e below s _ _ (T248.setTop (mkF m 232 #[oJ a, .second, oJ b, .second, oI c1, oI c2, oI mode, oI lens, oJ ver1, .second, oI vmo, oJ ver2, .second, oI (3 : Int32), oI (3 : Int32), oI dd, oR x1, oR x2, oI (0 : Int32), .unset, .unset, .unset] [(.long ver1)]))
              refine Done.step (fun _ => XT.lload X248.here hx rfl (hb hby at_232) rfl) ?_
              show Done _ p e below s _ _ (T248.setTop (mkF m 234 #[oJ a, .second, oJ b, .second, oI c1, oI c2, oI mode, oI lens, oJ ver1, .second, oI vmo, oJ ver2, .second, oI (3 : Int32), oI (3 : Int32), oI dd, oR x1, oR x2, oI (0 : Int32), .unset, .unset, .unset] [(.long ver2), (.long ver1)]))
              refine Done.step (fun _ => XT.lcmp X248.here hx rfl (hb hby at_234) rfl) ?_
              show Done _ p e below s _ _ (T248.setTop (mkF m 235 #[oJ a, .second, oJ b, .second, oI c1, oI c2, oI mode, oI lens, oJ ver1, .second, oI vmo, oJ ver2, .second, oI (3 : Int32), oI (3 : Int32), oI dd, oR x1, oR x2, oI (0 : Int32), .unset, .unset, .unset] [(.int (XT.cmpL ver1 ver2))]))
              by_cases hc275 : ver1 = ver2
              · refine Done.step (fun _ => XS.ifNo X248.here hx rfl (hb hby at_235) rfl (XT.ll_ne_f hc275)) ?_
                show Done _ p e below s _ _ (T248.setTop (mkF m 238 #[oJ a, .second, oJ b, .second, oI c1, oI c2, oI mode, oI lens, oJ ver1, .second, oI vmo, oJ ver2, .second, oI (3 : Int32), oI (3 : Int32), oI dd, oR x1, oR x2, oI (0 : Int32), .unset, .unset, .unset] []))
                refine Done.step (fun _ => XS.iload X248.here hx rfl (hb hby at_238) rfl) ?_
                show Done _ p e below s _ _ (T248.setTop (mkF m 240 #[oJ a, .second, oJ b, .second, oI c1, oI c2, oI mode, oI lens, oJ ver1, .second, oI vmo, oJ ver2, .second, oI (3 : Int32), oI (3 : Int32), oI dd, oR x1, oR x2, oI (0 : Int32), .unset, .unset, .unset] [(.int (0 : Int32))]))
                refine Done.step (fun _ => XS.ifYes X248.here hx rfl (pc0 := 240) (pc' := 247) rfl (hb hby at_240) rfl (XT.i0_eq_t rfl) (by decide) (by decide)) ?_
                show Done _ p e below s _ _ (T248.setTop (mkF m 247 #[oJ a, .second, oJ b, .second, oI c1, oI c2, oI mode, oI lens, oJ ver1, .second, oI vmo, oJ ver2, .second, oI (3 : Int32), oI (3 : Int32), oI dd, oR x1, oR x2, oI (0 : Int32), .unset, .unset, .unset] []))
                refine Done.step (fun _ => XT.iconstV X248.here hx rfl (0 : Int32) (hb hby at_247) (by decide)) ?_
                show Done _ p e below s _ _ (T248.setTop (mkF m 248 #[oJ a, .second, oJ b, .second, oI c1, oI c2, oI mode, oI lens, oJ ver1, .second, oI vmo, oJ ver2, .second, oI (3 : Int32), oI (3 : Int32), oI dd, oR x1, oR x2, oI (0 : Int32), .unset, .unset, .unset] [(.int (0 : Int32))]))
                refine Done.step (fun _ => XS.istore X248.here hx rfl (hb hby at_248) rfl (l' := #[oJ a, .second, oJ b, .second, oI c1, oI c2, oI mode, oI lens, oJ ver1, .second, oI vmo, oJ ver2, .second, oI (3 : Int32), oI (3 : Int32), oI dd, oR x1, oR x2, oI (0 : Int32), oI (0 : Int32), .unset, .unset]) rfl) ?_
                show Done _ p e below s _ _ (T248.setTop (mkF m 250 #[oJ a, .second, oJ b, .second, oI c1, oI c2, oI mode, oI lens, oJ ver1, .second, oI vmo, oJ ver2, .second, oI (3 : Int32), oI (3 : Int32), oI dd, oR x1, oR x2, oI (0 : Int32), oI (0 : Int32), .unset, .unset] []))
                have f276 := (f242.keep K243q all0)
                have f277 := (Em1.keep K243q)
                have f278 := (Vm1.keep K243q nin0)
                have f279 := (Cm1.keep K243q nin0)
                have f280 := (Km1.keep K243q nin0)
                exact tl250 Z a0 hw a b ver1 ver2 c1 c2 mode lens vmo (3 : Int32) (3 : Int32) dd (0 : Int32) (0 : Int32) x1 t1 kb1 ([own_ch c1 (0 : Int32), own_ch c1 (1 : Int32), own_ch c1 (2 : Int32)] : List Int32) x2 t2 kb2 ([own_ch dd (0 : Int32), own_ch dd (1 : Int32), own_ch dd (2 : Int32)] : List Int32) z fm T243.heap n0 Zs243 f276 SC hz SF rF f277 f278 f279 f280 Em2 Vm2 Cm2 Km2 (fun c hc => (List.mem_cons.mp hc).elim (fun e => e ▸ own_chb c1 (0 : Int32)) ((fun c hc => (List.mem_cons.mp hc).elim (fun e => e ▸ own_chb c1 (1 : Int32)) ((fun c hc => (List.mem_cons.mp hc).elim (fun e => e ▸ own_chb c1 (2 : Int32)) ((fun c hc => absurd hc List.not_mem_nil) c)) c)) c)) (Nat.le_of_ble_eq_true rfl) (fun c hc => (List.mem_cons.mp hc).elim (fun e => e ▸ own_chb dd (0 : Int32)) ((fun c hc => (List.mem_cons.mp hc).elim (fun e => e ▸ own_chb dd (1 : Int32)) ((fun c hc => (List.mem_cons.mp hc).elim (fun e => e ▸ own_chb dd (2 : Int32)) ((fun c hc => absurd hc List.not_mem_nil) c)) c)) c)) (Nat.le_of_ble_eq_true rfl) hv1 hv2 (bP_f (fun q => hc249 ((own_L3 _ _ _ _ _ _).mp q.2).2.1)).symm hx hby hml hown hret hlk hZ hS hk e248 (X248.mono (by decide) (by decide)) N243
              · refine Done.step (fun _ => XS.ifYes X248.here hx rfl (pc0 := 235) (pc' := 247) rfl (hb hby at_235) rfl (XT.ll_ne_t hc275) (by decide) (by decide)) ?_
                show Done _ p e below s _ _ (T248.setTop (mkF m 247 #[oJ a, .second, oJ b, .second, oI c1, oI c2, oI mode, oI lens, oJ ver1, .second, oI vmo, oJ ver2, .second, oI (3 : Int32), oI (3 : Int32), oI dd, oR x1, oR x2, oI (0 : Int32), .unset, .unset, .unset] []))
                refine Done.step (fun _ => XT.iconstV X248.here hx rfl (0 : Int32) (hb hby at_247) (by decide)) ?_
                show Done _ p e below s _ _ (T248.setTop (mkF m 248 #[oJ a, .second, oJ b, .second, oI c1, oI c2, oI mode, oI lens, oJ ver1, .second, oI vmo, oJ ver2, .second, oI (3 : Int32), oI (3 : Int32), oI dd, oR x1, oR x2, oI (0 : Int32), .unset, .unset, .unset] [(.int (0 : Int32))]))
                refine Done.step (fun _ => XS.istore X248.here hx rfl (hb hby at_248) rfl (l' := #[oJ a, .second, oJ b, .second, oI c1, oI c2, oI mode, oI lens, oJ ver1, .second, oI vmo, oJ ver2, .second, oI (3 : Int32), oI (3 : Int32), oI dd, oR x1, oR x2, oI (0 : Int32), oI (0 : Int32), .unset, .unset]) rfl) ?_
                show Done _ p e below s _ _ (T248.setTop (mkF m 250 #[oJ a, .second, oJ b, .second, oI c1, oI c2, oI mode, oI lens, oJ ver1, .second, oI vmo, oJ ver2, .second, oI (3 : Int32), oI (3 : Int32), oI dd, oR x1, oR x2, oI (0 : Int32), oI (0 : Int32), .unset, .unset] []))
                have f281 := (f242.keep K243q all0)
                have f282 := (Em1.keep K243q)
                have f283 := (Vm1.keep K243q nin0)
                have f284 := (Cm1.keep K243q nin0)
                have f285 := (Km1.keep K243q nin0)
                exact tl250 Z a0 hw a b ver1 ver2 c1 c2 mode lens vmo (3 : Int32) (3 : Int32) dd (0 : Int32) (0 : Int32) x1 t1 kb1 ([own_ch c1 (0 : Int32), own_ch c1 (1 : Int32), own_ch c1 (2 : Int32)] : List Int32) x2 t2 kb2 ([own_ch dd (0 : Int32), own_ch dd (1 : Int32), own_ch dd (2 : Int32)] : List Int32) z fm T243.heap n0 Zs243 f281 SC hz SF rF f282 f283 f284 f285 Em2 Vm2 Cm2 Km2 (fun c hc => (List.mem_cons.mp hc).elim (fun e => e ▸ own_chb c1 (0 : Int32)) ((fun c hc => (List.mem_cons.mp hc).elim (fun e => e ▸ own_chb c1 (1 : Int32)) ((fun c hc => (List.mem_cons.mp hc).elim (fun e => e ▸ own_chb c1 (2 : Int32)) ((fun c hc => absurd hc List.not_mem_nil) c)) c)) c)) (Nat.le_of_ble_eq_true rfl) (fun c hc => (List.mem_cons.mp hc).elim (fun e => e ▸ own_chb dd (0 : Int32)) ((fun c hc => (List.mem_cons.mp hc).elim (fun e => e ▸ own_chb dd (1 : Int32)) ((fun c hc => (List.mem_cons.mp hc).elim (fun e => e ▸ own_chb dd (2 : Int32)) ((fun c hc => absurd hc List.not_mem_nil) c)) c)) c)) (Nat.le_of_ble_eq_true rfl) hv1 hv2 (bP_f (fun q => hc275 q.1.symm)).symm hx hby hml hown hret hlk hZ hS hk e248 (X248.mono (by decide) (by decide)) N243
          · refine Done.step (fun _ => XS.icmpYes X245.here hx rfl (pc0 := 178) (pc' := 227) rfl (hb hby at_178) rfl (XT.ii_ne_t hc246) (by decide) (by decide)) ?_
            show Done _ p e below s _ _ (T245.setTop (mkF m 227 #[oJ a, .second, oJ b, .second, oI c1, oI c2, oI mode, oI lens, oJ ver1, .second, oI vmo, oJ ver2, .second, oI (3 : Int32), oI (3 : Int32), oI dd, oR x1, oR x2, .unset, .unset, .unset, .unset] []))
            refine Done.step (fun _ => XT.iconstV X245.here hx rfl (0 : Int32) (hb hby at_227) (by decide)) ?_
            show Done _ p e below s _ _ (T245.setTop (mkF m 228 #[oJ a, .second, oJ b, .second, oI c1, oI c2, oI mode, oI lens, oJ ver1, .second, oI vmo, oJ ver2, .second, oI (3 : Int32), oI (3 : Int32), oI dd, oR x1, oR x2, .unset, .unset, .unset, .unset] [(.int (0 : Int32))]))
            refine Done.step (fun _ => XS.istore X245.here hx rfl (hb hby at_228) rfl (l' := #[oJ a, .second, oJ b, .second, oI c1, oI c2, oI mode, oI lens, oJ ver1, .second, oI vmo, oJ ver2, .second, oI (3 : Int32), oI (3 : Int32), oI dd, oR x1, oR x2, oI (0 : Int32), .unset, .unset, .unset]) rfl) ?_
            show Done _ p e below s _ _ (T245.setTop (mkF m 230 #[oJ a, .second, oJ b, .second, oI c1, oI c2, oI mode, oI lens, oJ ver1, .second, oI vmo, oJ ver2, .second, oI (3 : Int32), oI (3 : Int32), oI dd, oR x1, oR x2, oI (0 : Int32), .unset, .unset, .unset] []))
            refine Done.step (fun _ => XT.lload X245.here hx rfl (hb hby at_230) rfl) ?_
            show Done _ p e below s _ _ (T245.setTop (mkF m 232 #[oJ a, .second, oJ b, .second, oI c1, oI c2, oI mode, oI lens, oJ ver1, .second, oI vmo, oJ ver2, .second, oI (3 : Int32), oI (3 : Int32), oI dd, oR x1, oR x2, oI (0 : Int32), .unset, .unset, .unset] [(.long ver1)]))
            refine Done.step (fun _ => XT.lload X245.here hx rfl (hb hby at_232) rfl) ?_
            show Done _ p e below s _ _ (T245.setTop (mkF m 234 #[oJ a, .second, oJ b, .second, oI c1, oI c2, oI mode, oI lens, oJ ver1, .second, oI vmo, oJ ver2, .second, oI (3 : Int32), oI (3 : Int32), oI dd, oR x1, oR x2, oI (0 : Int32), .unset, .unset, .unset] [(.long ver2), (.long ver1)]))
            refine Done.step (fun _ => XT.lcmp X245.here hx rfl (hb hby at_234) rfl) ?_
            show Done _ p e below s _ _ (T245.setTop (mkF m 235 #[oJ a, .second, oJ b, .second, oI c1, oI c2, oI mode, oI lens, oJ ver1, .second, oI vmo, oJ ver2, .second, oI (3 : Int32), oI (3 : Int32), oI dd, oR x1, oR x2, oI (0 : Int32), .unset, .unset, .unset] [(.int (XT.cmpL ver1 ver2))]))
            by_cases hc286 : ver1 = ver2
            · refine Done.step (fun _ => XS.ifNo X245.here hx rfl (hb hby at_235) rfl (XT.ll_ne_f hc286)) ?_
              show Done _ p e below s _ _ (T245.setTop (mkF m 238 #[oJ a, .second, oJ b, .second, oI c1, oI c2, oI mode, oI lens, oJ ver1, .second, oI vmo, oJ ver2, .second, oI (3 : Int32), oI (3 : Int32), oI dd, oR x1, oR x2, oI (0 : Int32), .unset, .unset, .unset] []))
              refine Done.step (fun _ => XS.iload X245.here hx rfl (hb hby at_238) rfl) ?_
              show Done _ p e below s _ _ (T245.setTop (mkF m 240 #[oJ a, .second, oJ b, .second, oI c1, oI c2, oI mode, oI lens, oJ ver1, .second, oI vmo, oJ ver2, .second, oI (3 : Int32), oI (3 : Int32), oI dd, oR x1, oR x2, oI (0 : Int32), .unset, .unset, .unset] [(.int (0 : Int32))]))
              refine Done.step (fun _ => XS.ifYes X245.here hx rfl (pc0 := 240) (pc' := 247) rfl (hb hby at_240) rfl (XT.i0_eq_t rfl) (by decide) (by decide)) ?_
              show Done _ p e below s _ _ (T245.setTop (mkF m 247 #[oJ a, .second, oJ b, .second, oI c1, oI c2, oI mode, oI lens, oJ ver1, .second, oI vmo, oJ ver2, .second, oI (3 : Int32), oI (3 : Int32), oI dd, oR x1, oR x2, oI (0 : Int32), .unset, .unset, .unset] []))
              refine Done.step (fun _ => XT.iconstV X245.here hx rfl (0 : Int32) (hb hby at_247) (by decide)) ?_
              show Done _ p e below s _ _ (T245.setTop (mkF m 248 #[oJ a, .second, oJ b, .second, oI c1, oI c2, oI mode, oI lens, oJ ver1, .second, oI vmo, oJ ver2, .second, oI (3 : Int32), oI (3 : Int32), oI dd, oR x1, oR x2, oI (0 : Int32), .unset, .unset, .unset] [(.int (0 : Int32))]))
              refine Done.step (fun _ => XS.istore X245.here hx rfl (hb hby at_248) rfl (l' := #[oJ a, .second, oJ b, .second, oI c1, oI c2, oI mode, oI lens, oJ ver1, .second, oI vmo, oJ ver2, .second, oI (3 : Int32), oI (3 : Int32), oI dd, oR x1, oR x2, oI (0 : Int32), oI (0 : Int32), .unset, .unset]) rfl) ?_
              show Done _ p e below s _ _ (T245.setTop (mkF m 250 #[oJ a, .second, oJ b, .second, oI c1, oI c2, oI mode, oI lens, oJ ver1, .second, oI vmo, oJ ver2, .second, oI (3 : Int32), oI (3 : Int32), oI dd, oR x1, oR x2, oI (0 : Int32), oI (0 : Int32), .unset, .unset] []))
              have f287 := (f242.keep K243q all0)
              have f288 := (Em1.keep K243q)
              have f289 := (Vm1.keep K243q nin0)
              have f290 := (Cm1.keep K243q nin0)
              have f291 := (Km1.keep K243q nin0)
              exact tl250 Z a0 hw a b ver1 ver2 c1 c2 mode lens vmo (3 : Int32) (3 : Int32) dd (0 : Int32) (0 : Int32) x1 t1 kb1 ([own_ch c1 (0 : Int32), own_ch c1 (1 : Int32), own_ch c1 (2 : Int32)] : List Int32) x2 t2 kb2 ([own_ch dd (0 : Int32), own_ch dd (1 : Int32), own_ch dd (2 : Int32)] : List Int32) z fm T243.heap n0 Zs243 f287 SC hz SF rF f288 f289 f290 f291 Em2 Vm2 Cm2 Km2 (fun c hc => (List.mem_cons.mp hc).elim (fun e => e ▸ own_chb c1 (0 : Int32)) ((fun c hc => (List.mem_cons.mp hc).elim (fun e => e ▸ own_chb c1 (1 : Int32)) ((fun c hc => (List.mem_cons.mp hc).elim (fun e => e ▸ own_chb c1 (2 : Int32)) ((fun c hc => absurd hc List.not_mem_nil) c)) c)) c)) (Nat.le_of_ble_eq_true rfl) (fun c hc => (List.mem_cons.mp hc).elim (fun e => e ▸ own_chb dd (0 : Int32)) ((fun c hc => (List.mem_cons.mp hc).elim (fun e => e ▸ own_chb dd (1 : Int32)) ((fun c hc => (List.mem_cons.mp hc).elim (fun e => e ▸ own_chb dd (2 : Int32)) ((fun c hc => absurd hc List.not_mem_nil) c)) c)) c)) (Nat.le_of_ble_eq_true rfl) hv1 hv2 (bP_f (fun q => hc246 ((own_L3 _ _ _ _ _ _).mp q.2).1)).symm hx hby hml hown hret hlk hZ hS hk e245 (X245.mono (by decide) (by decide)) N243
            · refine Done.step (fun _ => XS.ifYes X245.here hx rfl (pc0 := 235) (pc' := 247) rfl (hb hby at_235) rfl (XT.ll_ne_t hc286) (by decide) (by decide)) ?_
              show Done _ p e below s _ _ (T245.setTop (mkF m 247 #[oJ a, .second, oJ b, .second, oI c1, oI c2, oI mode, oI lens, oJ ver1, .second, oI vmo, oJ ver2, .second, oI (3 : Int32), oI (3 : Int32), oI dd, oR x1, oR x2, oI (0 : Int32), .unset, .unset, .unset] []))
              refine Done.step (fun _ => XT.iconstV X245.here hx rfl (0 : Int32) (hb hby at_247) (by decide)) ?_
              show Done _ p e below s _ _ (T245.setTop (mkF m 248 #[oJ a, .second, oJ b, .second, oI c1, oI c2, oI mode, oI lens, oJ ver1, .second, oI vmo, oJ ver2, .second, oI (3 : Int32), oI (3 : Int32), oI dd, oR x1, oR x2, oI (0 : Int32), .unset, .unset, .unset] [(.int (0 : Int32))]))
              refine Done.step (fun _ => XS.istore X245.here hx rfl (hb hby at_248) rfl (l' := #[oJ a, .second, oJ b, .second, oI c1, oI c2, oI mode, oI lens, oJ ver1, .second, oI vmo, oJ ver2, .second, oI (3 : Int32), oI (3 : Int32), oI dd, oR x1, oR x2, oI (0 : Int32), oI (0 : Int32), .unset, .unset]) rfl) ?_
              show Done _ p e below s _ _ (T245.setTop (mkF m 250 #[oJ a, .second, oJ b, .second, oI c1, oI c2, oI mode, oI lens, oJ ver1, .second, oI vmo, oJ ver2, .second, oI (3 : Int32), oI (3 : Int32), oI dd, oR x1, oR x2, oI (0 : Int32), oI (0 : Int32), .unset, .unset] []))
              have f292 := (f242.keep K243q all0)
              have f293 := (Em1.keep K243q)
              have f294 := (Vm1.keep K243q nin0)
              have f295 := (Cm1.keep K243q nin0)
              have f296 := (Km1.keep K243q nin0)
              exact tl250 Z a0 hw a b ver1 ver2 c1 c2 mode lens vmo (3 : Int32) (3 : Int32) dd (0 : Int32) (0 : Int32) x1 t1 kb1 ([own_ch c1 (0 : Int32), own_ch c1 (1 : Int32), own_ch c1 (2 : Int32)] : List Int32) x2 t2 kb2 ([own_ch dd (0 : Int32), own_ch dd (1 : Int32), own_ch dd (2 : Int32)] : List Int32) z fm T243.heap n0 Zs243 f292 SC hz SF rF f293 f294 f295 f296 Em2 Vm2 Cm2 Km2 (fun c hc => (List.mem_cons.mp hc).elim (fun e => e ▸ own_chb c1 (0 : Int32)) ((fun c hc => (List.mem_cons.mp hc).elim (fun e => e ▸ own_chb c1 (1 : Int32)) ((fun c hc => (List.mem_cons.mp hc).elim (fun e => e ▸ own_chb c1 (2 : Int32)) ((fun c hc => absurd hc List.not_mem_nil) c)) c)) c)) (Nat.le_of_ble_eq_true rfl) (fun c hc => (List.mem_cons.mp hc).elim (fun e => e ▸ own_chb dd (0 : Int32)) ((fun c hc => (List.mem_cons.mp hc).elim (fun e => e ▸ own_chb dd (1 : Int32)) ((fun c hc => (List.mem_cons.mp hc).elim (fun e => e ▸ own_chb dd (2 : Int32)) ((fun c hc => absurd hc List.not_mem_nil) c)) c)) c)) (Nat.le_of_ble_eq_true rfl) hv1 hv2 (bP_f (fun q => hc286 q.1.symm)).symm hx hby hml hown hret hlk hZ hS hk e245 (X245.mono (by decide) (by decide)) N243
    refine Done.step (fun _ => XT.iconstV XL.here hx rfl (3 : Int32) (hb hby at_91) (by decide)) ?_
    show Done _ p e below s _ _ (TL.setTop (mkF m 92 #[oJ a, .second, oJ b, .second, oI c1, oI c2, oI mode, oI lens, oJ ver1, .second, oI vmo, oJ ver2, .second, .unset, .unset, .unset, .unset, .unset, .unset, .unset, .unset, .unset] [(.int (3 : Int32)), (.int lens)]))
    refine Done.step (fun _ => XS.iand XL.here hx rfl (hb hby at_92) rfl) ?_
    show Done _ p e below s _ _ (TL.setTop (mkF m 93 #[oJ a, .second, oJ b, .second, oI c1, oI c2, oI mode, oI lens, oJ ver1, .second, oI vmo, oJ ver2, .second, .unset, .unset, .unset, .unset, .unset, .unset, .unset, .unset, .unset] [(.int (lens &&& (3 : Int32)))]))
    refine Done.step (fun _ => XS.istore XL.here hx rfl (hb hby at_93) rfl (l' := #[oJ a, .second, oJ b, .second, oI c1, oI c2, oI mode, oI lens, oJ ver1, .second, oI vmo, oJ ver2, .second, oI (lens &&& (3 : Int32)), .unset, .unset, .unset, .unset, .unset, .unset, .unset, .unset]) rfl) ?_
    show Done _ p e below s _ _ (TL.setTop (mkF m 95 #[oJ a, .second, oJ b, .second, oI c1, oI c2, oI mode, oI lens, oJ ver1, .second, oI vmo, oJ ver2, .second, oI (lens &&& (3 : Int32)), .unset, .unset, .unset, .unset, .unset, .unset, .unset, .unset] []))
    refine Done.step (fun _ => XS.iload XL.here hx rfl (hb hby at_95) rfl) ?_
    show Done _ p e below s _ _ (TL.setTop (mkF m 97 #[oJ a, .second, oJ b, .second, oI c1, oI c2, oI mode, oI lens, oJ ver1, .second, oI vmo, oJ ver2, .second, oI (lens &&& (3 : Int32)), .unset, .unset, .unset, .unset, .unset, .unset, .unset, .unset] [(.int mode)]))
    refine Done.step (fun _ => XT.iconstV XL.here hx rfl (2 : Int32) (hb hby at_97) (by decide)) ?_
    show Done _ p e below s _ _ (TL.setTop (mkF m 98 #[oJ a, .second, oJ b, .second, oI c1, oI c2, oI mode, oI lens, oJ ver1, .second, oI vmo, oJ ver2, .second, oI (lens &&& (3 : Int32)), .unset, .unset, .unset, .unset, .unset, .unset, .unset, .unset] [(.int (2 : Int32)), (.int mode)]))
    refine Done.step (fun _ => XT.ishr XL.here hx rfl (hb hby at_98) rfl) ?_
    show Done _ p e below s _ _ (TL.setTop (mkF m 99 #[oJ a, .second, oJ b, .second, oI c1, oI c2, oI mode, oI lens, oJ ver1, .second, oI vmo, oJ ver2, .second, oI (lens &&& (3 : Int32)), .unset, .unset, .unset, .unset, .unset, .unset, .unset, .unset] [(.int (mode >>> ((2 : Int32) &&& 31)))]))
    refine Done.step (fun _ => XT.iconstV XL.here hx rfl (1 : Int32) (hb hby at_99) (by decide)) ?_
    show Done _ p e below s _ _ (TL.setTop (mkF m 100 #[oJ a, .second, oJ b, .second, oI c1, oI c2, oI mode, oI lens, oJ ver1, .second, oI vmo, oJ ver2, .second, oI (lens &&& (3 : Int32)), .unset, .unset, .unset, .unset, .unset, .unset, .unset, .unset] [(.int (1 : Int32)), (.int (mode >>> ((2 : Int32) &&& 31)))]))
    refine Done.step (fun _ => XS.iand XL.here hx rfl (hb hby at_100) rfl) ?_
    show Done _ p e below s _ _ (TL.setTop (mkF m 101 #[oJ a, .second, oJ b, .second, oI c1, oI c2, oI mode, oI lens, oJ ver1, .second, oI vmo, oJ ver2, .second, oI (lens &&& (3 : Int32)), .unset, .unset, .unset, .unset, .unset, .unset, .unset, .unset] [(.int ((mode >>> ((2 : Int32) &&& 31)) &&& (1 : Int32)))]))
    by_cases hc297 : ((mode >>> ((2 : Int32) &&& 31)) &&& (1 : Int32)) = (0 : Int32)
    · refine Done.step (fun _ => XS.ifYes XL.here hx rfl (pc0 := 101) (pc' := 109) rfl (hb hby at_101) rfl (XT.i0_eq_t hc297) (by decide) (by decide)) ?_
      show Done _ p e below s _ _ (TL.setTop (mkF m 109 #[oJ a, .second, oJ b, .second, oI c1, oI c2, oI mode, oI lens, oJ ver1, .second, oI vmo, oJ ver2, .second, oI (lens &&& (3 : Int32)), .unset, .unset, .unset, .unset, .unset, .unset, .unset, .unset] []))
      refine Done.step (fun _ => XS.iload XL.here hx rfl (hb hby at_109) rfl) ?_
      show Done _ p e below s _ _ (TL.setTop (mkF m 111 #[oJ a, .second, oJ b, .second, oI c1, oI c2, oI mode, oI lens, oJ ver1, .second, oI vmo, oJ ver2, .second, oI (lens &&& (3 : Int32)), .unset, .unset, .unset, .unset, .unset, .unset, .unset, .unset] [(.int lens)]))
      refine Done.step (fun _ => XT.iconstV XL.here hx rfl (2 : Int32) (hb hby at_111) (by decide)) ?_
      show Done _ p e below s _ _ (TL.setTop (mkF m 112 #[oJ a, .second, oJ b, .second, oI c1, oI c2, oI mode, oI lens, oJ ver1, .second, oI vmo, oJ ver2, .second, oI (lens &&& (3 : Int32)), .unset, .unset, .unset, .unset, .unset, .unset, .unset, .unset] [(.int (2 : Int32)), (.int lens)]))
      refine Done.step (fun _ => XT.ishr XL.here hx rfl (hb hby at_112) rfl) ?_
      show Done _ p e below s _ _ (TL.setTop (mkF m 113 #[oJ a, .second, oJ b, .second, oI c1, oI c2, oI mode, oI lens, oJ ver1, .second, oI vmo, oJ ver2, .second, oI (lens &&& (3 : Int32)), .unset, .unset, .unset, .unset, .unset, .unset, .unset, .unset] [(.int (lens >>> ((2 : Int32) &&& 31)))]))
      refine Done.step (fun _ => XT.iconstV XL.here hx rfl (3 : Int32) (hb hby at_113) (by decide)) ?_
      show Done _ p e below s _ _ (TL.setTop (mkF m 114 #[oJ a, .second, oJ b, .second, oI c1, oI c2, oI mode, oI lens, oJ ver1, .second, oI vmo, oJ ver2, .second, oI (lens &&& (3 : Int32)), .unset, .unset, .unset, .unset, .unset, .unset, .unset, .unset] [(.int (3 : Int32)), (.int (lens >>> ((2 : Int32) &&& 31)))]))
      refine Done.step (fun _ => XS.iand XL.here hx rfl (hb hby at_114) rfl) ?_
      show Done _ p e below s _ _ (TL.setTop (mkF m 115 #[oJ a, .second, oJ b, .second, oI c1, oI c2, oI mode, oI lens, oJ ver1, .second, oI vmo, oJ ver2, .second, oI (lens &&& (3 : Int32)), .unset, .unset, .unset, .unset, .unset, .unset, .unset, .unset] [(.int ((lens >>> ((2 : Int32) &&& 31)) &&& (3 : Int32)))]))
      refine Done.step (fun _ => XS.istore XL.here hx rfl (hb hby at_115) rfl (l' := #[oJ a, .second, oJ b, .second, oI c1, oI c2, oI mode, oI lens, oJ ver1, .second, oI vmo, oJ ver2, .second, oI (lens &&& (3 : Int32)), oI ((lens >>> ((2 : Int32) &&& 31)) &&& (3 : Int32)), .unset, .unset, .unset, .unset, .unset, .unset, .unset]) rfl) ?_
      show Done _ p e below s _ _ (TL.setTop (mkF m 117 #[oJ a, .second, oJ b, .second, oI c1, oI c2, oI mode, oI lens, oJ ver1, .second, oI vmo, oJ ver2, .second, oI (lens &&& (3 : Int32)), oI ((lens >>> ((2 : Int32) &&& 31)) &&& (3 : Int32)), .unset, .unset, .unset, .unset, .unset, .unset, .unset] []))
      refine Done.step (fun _ => XS.iload XL.here hx rfl (hb hby at_117) rfl) ?_
      show Done _ p e below s _ _ (TL.setTop (mkF m 119 #[oJ a, .second, oJ b, .second, oI c1, oI c2, oI mode, oI lens, oJ ver1, .second, oI vmo, oJ ver2, .second, oI (lens &&& (3 : Int32)), oI ((lens >>> ((2 : Int32) &&& 31)) &&& (3 : Int32)), .unset, .unset, .unset, .unset, .unset, .unset, .unset] [(.int mode)]))
      refine Done.step (fun _ => XT.iconstV XL.here hx rfl (3 : Int32) (hb hby at_119) (by decide)) ?_
      show Done _ p e below s _ _ (TL.setTop (mkF m 120 #[oJ a, .second, oJ b, .second, oI c1, oI c2, oI mode, oI lens, oJ ver1, .second, oI vmo, oJ ver2, .second, oI (lens &&& (3 : Int32)), oI ((lens >>> ((2 : Int32) &&& 31)) &&& (3 : Int32)), .unset, .unset, .unset, .unset, .unset, .unset, .unset] [(.int (3 : Int32)), (.int mode)]))
      refine Done.step (fun _ => XT.ishr XL.here hx rfl (hb hby at_120) rfl) ?_
      show Done _ p e below s _ _ (TL.setTop (mkF m 121 #[oJ a, .second, oJ b, .second, oI c1, oI c2, oI mode, oI lens, oJ ver1, .second, oI vmo, oJ ver2, .second, oI (lens &&& (3 : Int32)), oI ((lens >>> ((2 : Int32) &&& 31)) &&& (3 : Int32)), .unset, .unset, .unset, .unset, .unset, .unset, .unset] [(.int (mode >>> ((3 : Int32) &&& 31)))]))
      refine Done.step (fun _ => XT.iconstV XL.here hx rfl (1 : Int32) (hb hby at_121) (by decide)) ?_
      show Done _ p e below s _ _ (TL.setTop (mkF m 122 #[oJ a, .second, oJ b, .second, oI c1, oI c2, oI mode, oI lens, oJ ver1, .second, oI vmo, oJ ver2, .second, oI (lens &&& (3 : Int32)), oI ((lens >>> ((2 : Int32) &&& 31)) &&& (3 : Int32)), .unset, .unset, .unset, .unset, .unset, .unset, .unset] [(.int (1 : Int32)), (.int (mode >>> ((3 : Int32) &&& 31)))]))
      refine Done.step (fun _ => XS.iand XL.here hx rfl (hb hby at_122) rfl) ?_
      show Done _ p e below s _ _ (TL.setTop (mkF m 123 #[oJ a, .second, oJ b, .second, oI c1, oI c2, oI mode, oI lens, oJ ver1, .second, oI vmo, oJ ver2, .second, oI (lens &&& (3 : Int32)), oI ((lens >>> ((2 : Int32) &&& 31)) &&& (3 : Int32)), .unset, .unset, .unset, .unset, .unset, .unset, .unset] [(.int ((mode >>> ((3 : Int32) &&& 31)) &&& (1 : Int32)))]))
      by_cases hc298 : ((mode >>> ((3 : Int32) &&& 31)) &&& (1 : Int32)) = (0 : Int32)
      · refine Done.step (fun _ => XS.ifYes XL.here hx rfl (pc0 := 123) (pc' := 131) rfl (hb hby at_123) rfl (XT.i0_eq_t hc298) (by decide) (by decide)) ?_
        show Done _ p e below s _ _ (TL.setTop (mkF m 131 #[oJ a, .second, oJ b, .second, oI c1, oI c2, oI mode, oI lens, oJ ver1, .second, oI vmo, oJ ver2, .second, oI (lens &&& (3 : Int32)), oI ((lens >>> ((2 : Int32) &&& 31)) &&& (3 : Int32)), .unset, .unset, .unset, .unset, .unset, .unset, .unset] []))
        refine Done.step (fun _ => XS.iload XL.here hx rfl (hb hby at_131) rfl) ?_
        show Done _ p e below s _ _ (TL.setTop (mkF m 133 #[oJ a, .second, oJ b, .second, oI c1, oI c2, oI mode, oI lens, oJ ver1, .second, oI vmo, oJ ver2, .second, oI (lens &&& (3 : Int32)), oI ((lens >>> ((2 : Int32) &&& 31)) &&& (3 : Int32)), .unset, .unset, .unset, .unset, .unset, .unset, .unset] [(.int c2)]))
        refine Done.step (fun _ => XS.istore XL.here hx rfl (hb hby at_133) rfl (l' := #[oJ a, .second, oJ b, .second, oI c1, oI c2, oI mode, oI lens, oJ ver1, .second, oI vmo, oJ ver2, .second, oI (lens &&& (3 : Int32)), oI ((lens >>> ((2 : Int32) &&& 31)) &&& (3 : Int32)), oI c2, .unset, .unset, .unset, .unset, .unset, .unset]) rfl) ?_
        show Done _ p e below s _ _ (TL.setTop (mkF m 135 #[oJ a, .second, oJ b, .second, oI c1, oI c2, oI mode, oI lens, oJ ver1, .second, oI vmo, oJ ver2, .second, oI (lens &&& (3 : Int32)), oI ((lens >>> ((2 : Int32) &&& 31)) &&& (3 : Int32)), oI c2, .unset, .unset, .unset, .unset, .unset, .unset] []))
        exact K135 (lens &&& (3 : Int32)) ((lens >>> ((2 : Int32) &&& 31)) &&& (3 : Int32)) c2 (own_m3 _) (own_m3 _)
      · refine Done.step (fun _ => XS.ifNo XL.here hx rfl (hb hby at_123) rfl (XT.i0_eq_f hc298)) ?_
        show Done _ p e below s _ _ (TL.setTop (mkF m 126 #[oJ a, .second, oJ b, .second, oI c1, oI c2, oI mode, oI lens, oJ ver1, .second, oI vmo, oJ ver2, .second, oI (lens &&& (3 : Int32)), oI ((lens >>> ((2 : Int32) &&& 31)) &&& (3 : Int32)), .unset, .unset, .unset, .unset, .unset, .unset, .unset] []))
        refine Done.step (fun _ => XS.iload XL.here hx rfl (hb hby at_126) rfl) ?_
        show Done _ p e below s _ _ (TL.setTop (mkF m 128 #[oJ a, .second, oJ b, .second, oI c1, oI c2, oI mode, oI lens, oJ ver1, .second, oI vmo, oJ ver2, .second, oI (lens &&& (3 : Int32)), oI ((lens >>> ((2 : Int32) &&& 31)) &&& (3 : Int32)), .unset, .unset, .unset, .unset, .unset, .unset, .unset] [(.int c1)]))
        refine Done.step (fun _ => XS.goto XL.here hx rfl (pc0 := 128) (pc' := 133) rfl (hb hby at_128) (by decide) (by decide)) ?_
        show Done _ p e below s _ _ (TL.setTop (mkF m 133 #[oJ a, .second, oJ b, .second, oI c1, oI c2, oI mode, oI lens, oJ ver1, .second, oI vmo, oJ ver2, .second, oI (lens &&& (3 : Int32)), oI ((lens >>> ((2 : Int32) &&& 31)) &&& (3 : Int32)), .unset, .unset, .unset, .unset, .unset, .unset, .unset] [(.int c1)]))
        refine Done.step (fun _ => XS.istore XL.here hx rfl (hb hby at_133) rfl (l' := #[oJ a, .second, oJ b, .second, oI c1, oI c2, oI mode, oI lens, oJ ver1, .second, oI vmo, oJ ver2, .second, oI (lens &&& (3 : Int32)), oI ((lens >>> ((2 : Int32) &&& 31)) &&& (3 : Int32)), oI c1, .unset, .unset, .unset, .unset, .unset, .unset]) rfl) ?_
        show Done _ p e below s _ _ (TL.setTop (mkF m 135 #[oJ a, .second, oJ b, .second, oI c1, oI c2, oI mode, oI lens, oJ ver1, .second, oI vmo, oJ ver2, .second, oI (lens &&& (3 : Int32)), oI ((lens >>> ((2 : Int32) &&& 31)) &&& (3 : Int32)), oI c1, .unset, .unset, .unset, .unset, .unset, .unset] []))
        exact K135 (lens &&& (3 : Int32)) ((lens >>> ((2 : Int32) &&& 31)) &&& (3 : Int32)) c1 (own_m3 _) (own_m3 _)
    · refine Done.step (fun _ => XS.ifNo XL.here hx rfl (hb hby at_101) rfl (XT.i0_eq_f hc297)) ?_
      show Done _ p e below s _ _ (TL.setTop (mkF m 104 #[oJ a, .second, oJ b, .second, oI c1, oI c2, oI mode, oI lens, oJ ver1, .second, oI vmo, oJ ver2, .second, oI (lens &&& (3 : Int32)), .unset, .unset, .unset, .unset, .unset, .unset, .unset, .unset] []))
      refine Done.step (fun _ => XS.iload XL.here hx rfl (hb hby at_104) rfl) ?_
      show Done _ p e below s _ _ (TL.setTop (mkF m 106 #[oJ a, .second, oJ b, .second, oI c1, oI c2, oI mode, oI lens, oJ ver1, .second, oI vmo, oJ ver2, .second, oI (lens &&& (3 : Int32)), .unset, .unset, .unset, .unset, .unset, .unset, .unset, .unset] [(.int (lens &&& (3 : Int32)))]))
      refine Done.step (fun _ => XS.goto XL.here hx rfl (pc0 := 106) (pc' := 115) rfl (hb hby at_106) (by decide) (by decide)) ?_
      show Done _ p e below s _ _ (TL.setTop (mkF m 115 #[oJ a, .second, oJ b, .second, oI c1, oI c2, oI mode, oI lens, oJ ver1, .second, oI vmo, oJ ver2, .second, oI (lens &&& (3 : Int32)), .unset, .unset, .unset, .unset, .unset, .unset, .unset, .unset] [(.int (lens &&& (3 : Int32)))]))
      refine Done.step (fun _ => XS.istore XL.here hx rfl (hb hby at_115) rfl (l' := #[oJ a, .second, oJ b, .second, oI c1, oI c2, oI mode, oI lens, oJ ver1, .second, oI vmo, oJ ver2, .second, oI (lens &&& (3 : Int32)), oI (lens &&& (3 : Int32)), .unset, .unset, .unset, .unset, .unset, .unset, .unset]) rfl) ?_
      show Done _ p e below s _ _ (TL.setTop (mkF m 117 #[oJ a, .second, oJ b, .second, oI c1, oI c2, oI mode, oI lens, oJ ver1, .second, oI vmo, oJ ver2, .second, oI (lens &&& (3 : Int32)), oI (lens &&& (3 : Int32)), .unset, .unset, .unset, .unset, .unset, .unset, .unset] []))
      refine Done.step (fun _ => XS.iload XL.here hx rfl (hb hby at_117) rfl) ?_
      show Done _ p e below s _ _ (TL.setTop (mkF m 119 #[oJ a, .second, oJ b, .second, oI c1, oI c2, oI mode, oI lens, oJ ver1, .second, oI vmo, oJ ver2, .second, oI (lens &&& (3 : Int32)), oI (lens &&& (3 : Int32)), .unset, .unset, .unset, .unset, .unset, .unset, .unset] [(.int mode)]))
      refine Done.step (fun _ => XT.iconstV XL.here hx rfl (3 : Int32) (hb hby at_119) (by decide)) ?_
      show Done _ p e below s _ _ (TL.setTop (mkF m 120 #[oJ a, .second, oJ b, .second, oI c1, oI c2, oI mode, oI lens, oJ ver1, .second, oI vmo, oJ ver2, .second, oI (lens &&& (3 : Int32)), oI (lens &&& (3 : Int32)), .unset, .unset, .unset, .unset, .unset, .unset, .unset] [(.int (3 : Int32)), (.int mode)]))
      refine Done.step (fun _ => XT.ishr XL.here hx rfl (hb hby at_120) rfl) ?_
      show Done _ p e below s _ _ (TL.setTop (mkF m 121 #[oJ a, .second, oJ b, .second, oI c1, oI c2, oI mode, oI lens, oJ ver1, .second, oI vmo, oJ ver2, .second, oI (lens &&& (3 : Int32)), oI (lens &&& (3 : Int32)), .unset, .unset, .unset, .unset, .unset, .unset, .unset] [(.int (mode >>> ((3 : Int32) &&& 31)))]))
      refine Done.step (fun _ => XT.iconstV XL.here hx rfl (1 : Int32) (hb hby at_121) (by decide)) ?_
      show Done _ p e below s _ _ (TL.setTop (mkF m 122 #[oJ a, .second, oJ b, .second, oI c1, oI c2, oI mode, oI lens, oJ ver1, .second, oI vmo, oJ ver2, .second, oI (lens &&& (3 : Int32)), oI (lens &&& (3 : Int32)), .unset, .unset, .unset, .unset, .unset, .unset, .unset] [(.int (1 : Int32)), (.int (mode >>> ((3 : Int32) &&& 31)))]))
      refine Done.step (fun _ => XS.iand XL.here hx rfl (hb hby at_122) rfl) ?_
      show Done _ p e below s _ _ (TL.setTop (mkF m 123 #[oJ a, .second, oJ b, .second, oI c1, oI c2, oI mode, oI lens, oJ ver1, .second, oI vmo, oJ ver2, .second, oI (lens &&& (3 : Int32)), oI (lens &&& (3 : Int32)), .unset, .unset, .unset, .unset, .unset, .unset, .unset] [(.int ((mode >>> ((3 : Int32) &&& 31)) &&& (1 : Int32)))]))
      by_cases hc299 : ((mode >>> ((3 : Int32) &&& 31)) &&& (1 : Int32)) = (0 : Int32)
      · refine Done.step (fun _ => XS.ifYes XL.here hx rfl (pc0 := 123) (pc' := 131) rfl (hb hby at_123) rfl (XT.i0_eq_t hc299) (by decide) (by decide)) ?_
        show Done _ p e below s _ _ (TL.setTop (mkF m 131 #[oJ a, .second, oJ b, .second, oI c1, oI c2, oI mode, oI lens, oJ ver1, .second, oI vmo, oJ ver2, .second, oI (lens &&& (3 : Int32)), oI (lens &&& (3 : Int32)), .unset, .unset, .unset, .unset, .unset, .unset, .unset] []))
        refine Done.step (fun _ => XS.iload XL.here hx rfl (hb hby at_131) rfl) ?_
        show Done _ p e below s _ _ (TL.setTop (mkF m 133 #[oJ a, .second, oJ b, .second, oI c1, oI c2, oI mode, oI lens, oJ ver1, .second, oI vmo, oJ ver2, .second, oI (lens &&& (3 : Int32)), oI (lens &&& (3 : Int32)), .unset, .unset, .unset, .unset, .unset, .unset, .unset] [(.int c2)]))
        refine Done.step (fun _ => XS.istore XL.here hx rfl (hb hby at_133) rfl (l' := #[oJ a, .second, oJ b, .second, oI c1, oI c2, oI mode, oI lens, oJ ver1, .second, oI vmo, oJ ver2, .second, oI (lens &&& (3 : Int32)), oI (lens &&& (3 : Int32)), oI c2, .unset, .unset, .unset, .unset, .unset, .unset]) rfl) ?_
        show Done _ p e below s _ _ (TL.setTop (mkF m 135 #[oJ a, .second, oJ b, .second, oI c1, oI c2, oI mode, oI lens, oJ ver1, .second, oI vmo, oJ ver2, .second, oI (lens &&& (3 : Int32)), oI (lens &&& (3 : Int32)), oI c2, .unset, .unset, .unset, .unset, .unset, .unset] []))
        exact K135 (lens &&& (3 : Int32)) (lens &&& (3 : Int32)) c2 (own_m3 _) (own_m3 _)
      · refine Done.step (fun _ => XS.ifNo XL.here hx rfl (hb hby at_123) rfl (XT.i0_eq_f hc299)) ?_
        show Done _ p e below s _ _ (TL.setTop (mkF m 126 #[oJ a, .second, oJ b, .second, oI c1, oI c2, oI mode, oI lens, oJ ver1, .second, oI vmo, oJ ver2, .second, oI (lens &&& (3 : Int32)), oI (lens &&& (3 : Int32)), .unset, .unset, .unset, .unset, .unset, .unset, .unset] []))
        refine Done.step (fun _ => XS.iload XL.here hx rfl (hb hby at_126) rfl) ?_
        show Done _ p e below s _ _ (TL.setTop (mkF m 128 #[oJ a, .second, oJ b, .second, oI c1, oI c2, oI mode, oI lens, oJ ver1, .second, oI vmo, oJ ver2, .second, oI (lens &&& (3 : Int32)), oI (lens &&& (3 : Int32)), .unset, .unset, .unset, .unset, .unset, .unset, .unset] [(.int c1)]))
        refine Done.step (fun _ => XS.goto XL.here hx rfl (pc0 := 128) (pc' := 133) rfl (hb hby at_128) (by decide) (by decide)) ?_
        show Done _ p e below s _ _ (TL.setTop (mkF m 133 #[oJ a, .second, oJ b, .second, oI c1, oI c2, oI mode, oI lens, oJ ver1, .second, oI vmo, oJ ver2, .second, oI (lens &&& (3 : Int32)), oI (lens &&& (3 : Int32)), .unset, .unset, .unset, .unset, .unset, .unset, .unset] [(.int c1)]))
        refine Done.step (fun _ => XS.istore XL.here hx rfl (hb hby at_133) rfl (l' := #[oJ a, .second, oJ b, .second, oI c1, oI c2, oI mode, oI lens, oJ ver1, .second, oI vmo, oJ ver2, .second, oI (lens &&& (3 : Int32)), oI (lens &&& (3 : Int32)), oI c1, .unset, .unset, .unset, .unset, .unset, .unset]) rfl) ?_
        show Done _ p e below s _ _ (TL.setTop (mkF m 135 #[oJ a, .second, oJ b, .second, oI c1, oI c2, oI mode, oI lens, oJ ver1, .second, oI vmo, oJ ver2, .second, oI (lens &&& (3 : Int32)), oI (lens &&& (3 : Int32)), oI c1, .unset, .unset, .unset, .unset, .unset, .unset] []))
        exact K135 (lens &&& (3 : Int32)) (lens &&& (3 : Int32)) c1 (own_m3 _) (own_m3 _)
  refine Done.step (fun _ => XT.lloadN X0.here hx rfl (hb hby at_1) rfl) ?_
  show Done _ p e below s _ _ (T0.setTop (mkF m 2 #[oJ a, .second, oJ b, .second, oI c1, oI c2, oI mode, oI lens, .unset, .unset, .unset, .unset, .unset, .unset, .unset, .unset, .unset, .unset, .unset, .unset, .unset, .unset] [(.long a), (.long (1 : Int64))]))
  refine Done.step (fun _ => Stand.ldc2J X0 hx hown (mvT hZ (wAt hw 0 rfl)) (g := (mkF m 2 #[oJ a, .second, oJ b, .second, oI c1, oI c2, oI mode, oI lens, .unset, .unset, .unset, .unset, .unset, .unset, .unset, .unset, .unset, .unset, .unset, .unset, .unset, .unset] [(.long a), (.long (1 : Int64))])) rfl (hb hby at_2)) ?_
  show Done _ p e below s _ _ (T0.setTop (mkF m 5 #[oJ a, .second, oJ b, .second, oI c1, oI c2, oI mode, oI lens, .unset, .unset, .unset, .unset, .unset, .unset, .unset, .unset, .unset, .unset, .unset, .unset, .unset, .unset] [(.long (9223372036854775807 : Int64)), (.long a), (.long (1 : Int64))]))
  refine Done.step (fun _ => XT.land X0.here hx rfl (hb hby at_5) rfl) ?_
  show Done _ p e below s _ _ (T0.setTop (mkF m 6 #[oJ a, .second, oJ b, .second, oI c1, oI c2, oI mode, oI lens, .unset, .unset, .unset, .unset, .unset, .unset, .unset, .unset, .unset, .unset, .unset, .unset, .unset, .unset] [(.long (a &&& (9223372036854775807 : Int64))), (.long (1 : Int64))]))
  refine Done.callSP X0 hx hZ hown (wAt hw 1 rfl) (wAt hw 2 rfl) (wAt hw 3 rfl) (wAt hw 4 rfl) (by decide) (rmMx l Z a0 hw [] (1 : Int64) (a &&& (9223372036854775807 : Int64)) h0 n0 Z0) e0 (g := (mkF m 6 #[oJ a, .second, oJ b, .second, oI c1, oI c2, oI mode, oI lens, .unset, .unset, .unset, .unset, .unset, .unset, .unset, .unset, .unset, .unset, .unset, .unset, .unset, .unset] [(.long (a &&& (9223372036854775807 : Int64))), (.long (1 : Int64))])) rfl (by rw [hml]; rfl) [(.long (1 : Int64)), (.long (a &&& (9223372036854775807 : Int64)))] [] 0 (lenOf pd_14 rfl) rfl rfl (by show 2 * 0 + _ ≤ _; exact Nat.le_of_eq rfl) (hb hby at_6) (by decide) (by decide) (by decide) (by decide) rfl rfl ?_
  intro T300 X300 e300
  show Done _ p e below s _ _ (T300.setTop (mkF m 9 #[oJ a, .second, oJ b, .second, oI c1, oI c2, oI mode, oI lens, .unset, .unset, .unset, .unset, .unset, .unset, .unset, .unset, .unset, .unset, .unset, .unset, .unset, .unset] [(.long (own_max (1 : Int64) (a &&& (9223372036854775807 : Int64))))]))
  refine Done.step (fun _ => XT.lstore X300.here hx rfl (hb hby at_9) rfl (l' := #[oJ a, .second, oJ b, .second, oI c1, oI c2, oI mode, oI lens, oJ (own_max (1 : Int64) (a &&& (9223372036854775807 : Int64))), .second, .unset, .unset, .unset, .unset, .unset, .unset, .unset, .unset, .unset, .unset, .unset, .unset]) rfl) ?_
  show Done _ p e below s _ _ (T300.setTop (mkF m 11 #[oJ a, .second, oJ b, .second, oI c1, oI c2, oI mode, oI lens, oJ (own_max (1 : Int64) (a &&& (9223372036854775807 : Int64))), .second, .unset, .unset, .unset, .unset, .unset, .unset, .unset, .unset, .unset, .unset, .unset, .unset] []))
  refine Done.step (fun _ => XS.iload X300.here hx rfl (hb hby at_11) rfl) ?_
  show Done _ p e below s _ _ (T300.setTop (mkF m 13 #[oJ a, .second, oJ b, .second, oI c1, oI c2, oI mode, oI lens, oJ (own_max (1 : Int64) (a &&& (9223372036854775807 : Int64))), .second, .unset, .unset, .unset, .unset, .unset, .unset, .unset, .unset, .unset, .unset, .unset, .unset] [(.int mode)]))
  refine Done.step (fun _ => XT.iconstV X300.here hx rfl (3 : Int32) (hb hby at_13) (by decide)) ?_
  show Done _ p e below s _ _ (T300.setTop (mkF m 14 #[oJ a, .second, oJ b, .second, oI c1, oI c2, oI mode, oI lens, oJ (own_max (1 : Int64) (a &&& (9223372036854775807 : Int64))), .second, .unset, .unset, .unset, .unset, .unset, .unset, .unset, .unset, .unset, .unset, .unset, .unset] [(.int (3 : Int32)), (.int mode)]))
  refine Done.step (fun _ => XS.iand X300.here hx rfl (hb hby at_14) rfl) ?_
  show Done _ p e below s _ _ (T300.setTop (mkF m 15 #[oJ a, .second, oJ b, .second, oI c1, oI c2, oI mode, oI lens, oJ (own_max (1 : Int64) (a &&& (9223372036854775807 : Int64))), .second, .unset, .unset, .unset, .unset, .unset, .unset, .unset, .unset, .unset, .unset, .unset, .unset] [(.int (mode &&& (3 : Int32)))]))
  refine Done.step (fun _ => XS.istore X300.here hx rfl (hb hby at_15) rfl (l' := #[oJ a, .second, oJ b, .second, oI c1, oI c2, oI mode, oI lens, oJ (own_max (1 : Int64) (a &&& (9223372036854775807 : Int64))), .second, oI (mode &&& (3 : Int32)), .unset, .unset, .unset, .unset, .unset, .unset, .unset, .unset, .unset, .unset, .unset]) rfl) ?_
  show Done _ p e below s _ _ (T300.setTop (mkF m 17 #[oJ a, .second, oJ b, .second, oI c1, oI c2, oI mode, oI lens, oJ (own_max (1 : Int64) (a &&& (9223372036854775807 : Int64))), .second, oI (mode &&& (3 : Int32)), .unset, .unset, .unset, .unset, .unset, .unset, .unset, .unset, .unset, .unset, .unset] []))
  refine Done.step (fun _ => XS.iload X300.here hx rfl (hb hby at_17) rfl) ?_
  show Done _ p e below s _ _ (T300.setTop (mkF m 19 #[oJ a, .second, oJ b, .second, oI c1, oI c2, oI mode, oI lens, oJ (own_max (1 : Int64) (a &&& (9223372036854775807 : Int64))), .second, oI (mode &&& (3 : Int32)), .unset, .unset, .unset, .unset, .unset, .unset, .unset, .unset, .unset, .unset, .unset] [(.int (mode &&& (3 : Int32)))]))
  by_cases hc301 : (mode &&& (3 : Int32)) = (0 : Int32)
  · refine Done.step (fun _ => XS.ifNo X300.here hx rfl (hb hby at_19) rfl (XT.i0_ne_f hc301)) ?_
    show Done _ p e below s _ _ (T300.setTop (mkF m 22 #[oJ a, .second, oJ b, .second, oI c1, oI c2, oI mode, oI lens, oJ (own_max (1 : Int64) (a &&& (9223372036854775807 : Int64))), .second, oI (mode &&& (3 : Int32)), .unset, .unset, .unset, .unset, .unset, .unset, .unset, .unset, .unset, .unset, .unset] []))
    refine Done.step (fun _ => XT.lload X300.here hx rfl (hb hby at_22) rfl) ?_
    show Done _ p e below s _ _ (T300.setTop (mkF m 24 #[oJ a, .second, oJ b, .second, oI c1, oI c2, oI mode, oI lens, oJ (own_max (1 : Int64) (a &&& (9223372036854775807 : Int64))), .second, oI (mode &&& (3 : Int32)), .unset, .unset, .unset, .unset, .unset, .unset, .unset, .unset, .unset, .unset, .unset] [(.long (own_max (1 : Int64) (a &&& (9223372036854775807 : Int64))))]))
    refine Done.step (fun _ => XT.lstore X300.here hx rfl (hb hby at_24) rfl (l' := #[oJ a, .second, oJ b, .second, oI c1, oI c2, oI mode, oI lens, oJ (own_max (1 : Int64) (a &&& (9223372036854775807 : Int64))), .second, oI (mode &&& (3 : Int32)), oJ (own_max (1 : Int64) (a &&& (9223372036854775807 : Int64))), .second, .unset, .unset, .unset, .unset, .unset, .unset, .unset, .unset, .unset]) rfl) ?_
    show Done _ p e below s _ _ (T300.setTop (mkF m 26 #[oJ a, .second, oJ b, .second, oI c1, oI c2, oI mode, oI lens, oJ (own_max (1 : Int64) (a &&& (9223372036854775807 : Int64))), .second, oI (mode &&& (3 : Int32)), oJ (own_max (1 : Int64) (a &&& (9223372036854775807 : Int64))), .second, .unset, .unset, .unset, .unset, .unset, .unset, .unset, .unset, .unset] []))
    refine Done.step (fun _ => XS.goto X300.here hx rfl (pc0 := 26) (pc' := 89) rfl (hb hby at_26) (by decide) (by decide)) ?_
    show Done _ p e below s _ _ (T300.setTop (mkF m 89 #[oJ a, .second, oJ b, .second, oI c1, oI c2, oI mode, oI lens, oJ (own_max (1 : Int64) (a &&& (9223372036854775807 : Int64))), .second, oI (mode &&& (3 : Int32)), oJ (own_max (1 : Int64) (a &&& (9223372036854775807 : Int64))), .second, .unset, .unset, .unset, .unset, .unset, .unset, .unset, .unset, .unset] []))
    exact K89 T300 e300 X300 (own_max (1 : Int64) (a &&& (9223372036854775807 : Int64))) (own_max (1 : Int64) (a &&& (9223372036854775807 : Int64))) (mode &&& (3 : Int32)) (own_mge _) (own_mge _)
  · refine Done.step (fun _ => XS.ifYes X300.here hx rfl (pc0 := 19) (pc' := 29) rfl (hb hby at_19) rfl (XT.i0_ne_t hc301) (by decide) (by decide)) ?_
    show Done _ p e below s _ _ (T300.setTop (mkF m 29 #[oJ a, .second, oJ b, .second, oI c1, oI c2, oI mode, oI lens, oJ (own_max (1 : Int64) (a &&& (9223372036854775807 : Int64))), .second, oI (mode &&& (3 : Int32)), .unset, .unset, .unset, .unset, .unset, .unset, .unset, .unset, .unset, .unset, .unset] []))
    refine Done.step (fun _ => XS.iload X300.here hx rfl (hb hby at_29) rfl) ?_
    show Done _ p e below s _ _ (T300.setTop (mkF m 31 #[oJ a, .second, oJ b, .second, oI c1, oI c2, oI mode, oI lens, oJ (own_max (1 : Int64) (a &&& (9223372036854775807 : Int64))), .second, oI (mode &&& (3 : Int32)), .unset, .unset, .unset, .unset, .unset, .unset, .unset, .unset, .unset, .unset, .unset] [(.int (mode &&& (3 : Int32)))]))
    refine Done.step (fun _ => XT.iconstV X300.here hx rfl (1 : Int32) (hb hby at_31) (by decide)) ?_
    show Done _ p e below s _ _ (T300.setTop (mkF m 32 #[oJ a, .second, oJ b, .second, oI c1, oI c2, oI mode, oI lens, oJ (own_max (1 : Int64) (a &&& (9223372036854775807 : Int64))), .second, oI (mode &&& (3 : Int32)), .unset, .unset, .unset, .unset, .unset, .unset, .unset, .unset, .unset, .unset, .unset] [(.int (1 : Int32)), (.int (mode &&& (3 : Int32)))]))
    by_cases hc302 : (mode &&& (3 : Int32)) = (1 : Int32)
    · refine Done.step (fun _ => XS.icmpNo X300.here hx rfl (hb hby at_32) rfl (XT.ii_ne_f hc302)) ?_
      show Done _ p e below s _ _ (T300.setTop (mkF m 35 #[oJ a, .second, oJ b, .second, oI c1, oI c2, oI mode, oI lens, oJ (own_max (1 : Int64) (a &&& (9223372036854775807 : Int64))), .second, oI (mode &&& (3 : Int32)), .unset, .unset, .unset, .unset, .unset, .unset, .unset, .unset, .unset, .unset, .unset] []))
      refine Done.step (fun _ => XT.lconstV X300.here hx rfl (1 : Int64) (hb hby at_35) (by decide)) ?_
      show Done _ p e below s _ _ (T300.setTop (mkF m 36 #[oJ a, .second, oJ b, .second, oI c1, oI c2, oI mode, oI lens, oJ (own_max (1 : Int64) (a &&& (9223372036854775807 : Int64))), .second, oI (mode &&& (3 : Int32)), .unset, .unset, .unset, .unset, .unset, .unset, .unset, .unset, .unset, .unset, .unset] [(.long (1 : Int64))]))
      refine Done.step (fun _ => XT.lloadN X300.here hx rfl (hb hby at_36) rfl) ?_
      show Done _ p e below s _ _ (T300.setTop (mkF m 37 #[oJ a, .second, oJ b, .second, oI c1, oI c2, oI mode, oI lens, oJ (own_max (1 : Int64) (a &&& (9223372036854775807 : Int64))), .second, oI (mode &&& (3 : Int32)), .unset, .unset, .unset, .unset, .unset, .unset, .unset, .unset, .unset, .unset, .unset] [(.long b), (.long (1 : Int64))]))
      refine Done.step (fun _ => Stand.ldc2J X300 hx hown (mvT hZ (wAt hw 0 rfl)) (g := (mkF m 37 #[oJ a, .second, oJ b, .second, oI c1, oI c2, oI mode, oI lens, oJ (own_max (1 : Int64) (a &&& (9223372036854775807 : Int64))), .second, oI (mode &&& (3 : Int32)), .unset, .unset, .unset, .unset, .unset, .unset, .unset, .unset, .unset, .unset, .unset] [(.long b), (.long (1 : Int64))])) rfl (hb hby at_37)) ?_
      show Done _ p e below s _ _ (T300.setTop (mkF m 40 #[oJ a, .second, oJ b, .second, oI c1, oI c2, oI mode, oI lens, oJ (own_max (1 : Int64) (a &&& (9223372036854775807 : Int64))), .second, oI (mode &&& (3 : Int32)), .unset, .unset, .unset, .unset, .unset, .unset, .unset, .unset, .unset, .unset, .unset] [(.long (9223372036854775807 : Int64)), (.long b), (.long (1 : Int64))]))
      refine Done.step (fun _ => XT.land X300.here hx rfl (hb hby at_40) rfl) ?_
      show Done _ p e below s _ _ (T300.setTop (mkF m 41 #[oJ a, .second, oJ b, .second, oI c1, oI c2, oI mode, oI lens, oJ (own_max (1 : Int64) (a &&& (9223372036854775807 : Int64))), .second, oI (mode &&& (3 : Int32)), .unset, .unset, .unset, .unset, .unset, .unset, .unset, .unset, .unset, .unset, .unset] [(.long (b &&& (9223372036854775807 : Int64))), (.long (1 : Int64))]))
      refine Done.callSP X300 hx hZ hown (wAt hw 1 rfl) (wAt hw 2 rfl) (wAt hw 3 rfl) (wAt hw 4 rfl) (by decide) (rmMx l Z a0 hw [] (1 : Int64) (b &&& (9223372036854775807 : Int64)) h0 n0 Z0) e300 (g := (mkF m 41 #[oJ a, .second, oJ b, .second, oI c1, oI c2, oI mode, oI lens, oJ (own_max (1 : Int64) (a &&& (9223372036854775807 : Int64))), .second, oI (mode &&& (3 : Int32)), .unset, .unset, .unset, .unset, .unset, .unset, .unset, .unset, .unset, .unset, .unset] [(.long (b &&& (9223372036854775807 : Int64))), (.long (1 : Int64))])) rfl (by rw [hml]; rfl) [(.long (1 : Int64)), (.long (b &&& (9223372036854775807 : Int64)))] [] 0 (lenOf pd_14 rfl) rfl rfl (by show 2 * 0 + _ ≤ _; exact Nat.le_of_eq rfl) (hb hby at_41) (by decide) (by decide) (by decide) (by decide) rfl rfl ?_
      intro T303 X303 e303
      show Done _ p e below s _ _ (T303.setTop (mkF m 44 #[oJ a, .second, oJ b, .second, oI c1, oI c2, oI mode, oI lens, oJ (own_max (1 : Int64) (a &&& (9223372036854775807 : Int64))), .second, oI (mode &&& (3 : Int32)), .unset, .unset, .unset, .unset, .unset, .unset, .unset, .unset, .unset, .unset, .unset] [(.long (own_max (1 : Int64) (b &&& (9223372036854775807 : Int64))))]))
      refine Done.step (fun _ => XT.lstore X303.here hx rfl (hb hby at_44) rfl (l' := #[oJ a, .second, oJ b, .second, oI c1, oI c2, oI mode, oI lens, oJ (own_max (1 : Int64) (a &&& (9223372036854775807 : Int64))), .second, oI (mode &&& (3 : Int32)), oJ (own_max (1 : Int64) (b &&& (9223372036854775807 : Int64))), .second, .unset, .unset, .unset, .unset, .unset, .unset, .unset, .unset, .unset]) rfl) ?_
      show Done _ p e below s _ _ (T303.setTop (mkF m 46 #[oJ a, .second, oJ b, .second, oI c1, oI c2, oI mode, oI lens, oJ (own_max (1 : Int64) (a &&& (9223372036854775807 : Int64))), .second, oI (mode &&& (3 : Int32)), oJ (own_max (1 : Int64) (b &&& (9223372036854775807 : Int64))), .second, .unset, .unset, .unset, .unset, .unset, .unset, .unset, .unset, .unset] []))
      refine Done.step (fun _ => XS.goto X303.here hx rfl (pc0 := 46) (pc' := 89) rfl (hb hby at_46) (by decide) (by decide)) ?_
      show Done _ p e below s _ _ (T303.setTop (mkF m 89 #[oJ a, .second, oJ b, .second, oI c1, oI c2, oI mode, oI lens, oJ (own_max (1 : Int64) (a &&& (9223372036854775807 : Int64))), .second, oI (mode &&& (3 : Int32)), oJ (own_max (1 : Int64) (b &&& (9223372036854775807 : Int64))), .second, .unset, .unset, .unset, .unset, .unset, .unset, .unset, .unset, .unset] []))
      exact K89 T303 e303 X303 (own_max (1 : Int64) (a &&& (9223372036854775807 : Int64))) (own_max (1 : Int64) (b &&& (9223372036854775807 : Int64))) (mode &&& (3 : Int32)) (own_mge _) (own_mge _)
    · refine Done.step (fun _ => XS.icmpYes X300.here hx rfl (pc0 := 32) (pc' := 49) rfl (hb hby at_32) rfl (XT.ii_ne_t hc302) (by decide) (by decide)) ?_
      show Done _ p e below s _ _ (T300.setTop (mkF m 49 #[oJ a, .second, oJ b, .second, oI c1, oI c2, oI mode, oI lens, oJ (own_max (1 : Int64) (a &&& (9223372036854775807 : Int64))), .second, oI (mode &&& (3 : Int32)), .unset, .unset, .unset, .unset, .unset, .unset, .unset, .unset, .unset, .unset, .unset] []))
      refine Done.step (fun _ => XS.iload X300.here hx rfl (hb hby at_49) rfl) ?_
      show Done _ p e below s _ _ (T300.setTop (mkF m 51 #[oJ a, .second, oJ b, .second, oI c1, oI c2, oI mode, oI lens, oJ (own_max (1 : Int64) (a &&& (9223372036854775807 : Int64))), .second, oI (mode &&& (3 : Int32)), .unset, .unset, .unset, .unset, .unset, .unset, .unset, .unset, .unset, .unset, .unset] [(.int (mode &&& (3 : Int32)))]))
      refine Done.step (fun _ => XT.iconstV X300.here hx rfl (2 : Int32) (hb hby at_51) (by decide)) ?_
      show Done _ p e below s _ _ (T300.setTop (mkF m 52 #[oJ a, .second, oJ b, .second, oI c1, oI c2, oI mode, oI lens, oJ (own_max (1 : Int64) (a &&& (9223372036854775807 : Int64))), .second, oI (mode &&& (3 : Int32)), .unset, .unset, .unset, .unset, .unset, .unset, .unset, .unset, .unset, .unset, .unset] [(.int (2 : Int32)), (.int (mode &&& (3 : Int32)))]))
      by_cases hc304 : (mode &&& (3 : Int32)) = (2 : Int32)
      · refine Done.step (fun _ => XS.icmpNo X300.here hx rfl (hb hby at_52) rfl (XT.ii_ne_f hc304)) ?_
        show Done _ p e below s _ _ (T300.setTop (mkF m 55 #[oJ a, .second, oJ b, .second, oI c1, oI c2, oI mode, oI lens, oJ (own_max (1 : Int64) (a &&& (9223372036854775807 : Int64))), .second, oI (mode &&& (3 : Int32)), .unset, .unset, .unset, .unset, .unset, .unset, .unset, .unset, .unset, .unset, .unset] []))
        refine Done.step (fun _ => XT.lload X300.here hx rfl (hb hby at_55) rfl) ?_
        show Done _ p e below s _ _ (T300.setTop (mkF m 57 #[oJ a, .second, oJ b, .second, oI c1, oI c2, oI mode, oI lens, oJ (own_max (1 : Int64) (a &&& (9223372036854775807 : Int64))), .second, oI (mode &&& (3 : Int32)), .unset, .unset, .unset, .unset, .unset, .unset, .unset, .unset, .unset, .unset, .unset] [(.long (own_max (1 : Int64) (a &&& (9223372036854775807 : Int64))))]))
        refine Done.step (fun _ => Stand.ldc2J X300 hx hown (mvT hZ (wAt hw 0 rfl)) (g := (mkF m 57 #[oJ a, .second, oJ b, .second, oI c1, oI c2, oI mode, oI lens, oJ (own_max (1 : Int64) (a &&& (9223372036854775807 : Int64))), .second, oI (mode &&& (3 : Int32)), .unset, .unset, .unset, .unset, .unset, .unset, .unset, .unset, .unset, .unset, .unset] [(.long (own_max (1 : Int64) (a &&& (9223372036854775807 : Int64))))])) rfl (hb hby at_57)) ?_
        show Done _ p e below s _ _ (T300.setTop (mkF m 60 #[oJ a, .second, oJ b, .second, oI c1, oI c2, oI mode, oI lens, oJ (own_max (1 : Int64) (a &&& (9223372036854775807 : Int64))), .second, oI (mode &&& (3 : Int32)), .unset, .unset, .unset, .unset, .unset, .unset, .unset, .unset, .unset, .unset, .unset] [(.long (9223372036854775807 : Int64)), (.long (own_max (1 : Int64) (a &&& (9223372036854775807 : Int64))))]))
        refine Done.step (fun _ => XT.lcmp X300.here hx rfl (hb hby at_60) rfl) ?_
        show Done _ p e below s _ _ (T300.setTop (mkF m 61 #[oJ a, .second, oJ b, .second, oI c1, oI c2, oI mode, oI lens, oJ (own_max (1 : Int64) (a &&& (9223372036854775807 : Int64))), .second, oI (mode &&& (3 : Int32)), .unset, .unset, .unset, .unset, .unset, .unset, .unset, .unset, .unset, .unset, .unset] [(.int (XT.cmpL (own_max (1 : Int64) (a &&& (9223372036854775807 : Int64))) (9223372036854775807 : Int64)))]))
        by_cases hc305 : (own_max (1 : Int64) (a &&& (9223372036854775807 : Int64))) = (9223372036854775807 : Int64)
        · refine Done.step (fun _ => XS.ifNo X300.here hx rfl (hb hby at_61) rfl (XT.ll_ne_f hc305)) ?_
          show Done _ p e below s _ _ (T300.setTop (mkF m 64 #[oJ a, .second, oJ b, .second, oI c1, oI c2, oI mode, oI lens, oJ (own_max (1 : Int64) (a &&& (9223372036854775807 : Int64))), .second, oI (mode &&& (3 : Int32)), .unset, .unset, .unset, .unset, .unset, .unset, .unset, .unset, .unset, .unset, .unset] []))
          refine Done.step (fun _ => XT.lconstV X300.here hx rfl (1 : Int64) (hb hby at_64) (by decide)) ?_
          show Done _ p e below s _ _ (T300.setTop (mkF m 65 #[oJ a, .second, oJ b, .second, oI c1, oI c2, oI mode, oI lens, oJ (own_max (1 : Int64) (a &&& (9223372036854775807 : Int64))), .second, oI (mode &&& (3 : Int32)), .unset, .unset, .unset, .unset, .unset, .unset, .unset, .unset, .unset, .unset, .unset] [(.long (1 : Int64))]))
          refine Done.step (fun _ => XS.goto X300.here hx rfl (pc0 := 65) (pc' := 72) rfl (hb hby at_65) (by decide) (by decide)) ?_
          show Done _ p e below s _ _ (T300.setTop (mkF m 72 #[oJ a, .second, oJ b, .second, oI c1, oI c2, oI mode, oI lens, oJ (own_max (1 : Int64) (a &&& (9223372036854775807 : Int64))), .second, oI (mode &&& (3 : Int32)), .unset, .unset, .unset, .unset, .unset, .unset, .unset, .unset, .unset, .unset, .unset] [(.long (1 : Int64))]))
          refine Done.step (fun _ => XT.lstore X300.here hx rfl (hb hby at_72) rfl (l' := #[oJ a, .second, oJ b, .second, oI c1, oI c2, oI mode, oI lens, oJ (own_max (1 : Int64) (a &&& (9223372036854775807 : Int64))), .second, oI (mode &&& (3 : Int32)), oJ (1 : Int64), .second, .unset, .unset, .unset, .unset, .unset, .unset, .unset, .unset, .unset]) rfl) ?_
          show Done _ p e below s _ _ (T300.setTop (mkF m 74 #[oJ a, .second, oJ b, .second, oI c1, oI c2, oI mode, oI lens, oJ (own_max (1 : Int64) (a &&& (9223372036854775807 : Int64))), .second, oI (mode &&& (3 : Int32)), oJ (1 : Int64), .second, .unset, .unset, .unset, .unset, .unset, .unset, .unset, .unset, .unset] []))
          refine Done.step (fun _ => XS.goto X300.here hx rfl (pc0 := 74) (pc' := 89) rfl (hb hby at_74) (by decide) (by decide)) ?_
          show Done _ p e below s _ _ (T300.setTop (mkF m 89 #[oJ a, .second, oJ b, .second, oI c1, oI c2, oI mode, oI lens, oJ (own_max (1 : Int64) (a &&& (9223372036854775807 : Int64))), .second, oI (mode &&& (3 : Int32)), oJ (1 : Int64), .second, .unset, .unset, .unset, .unset, .unset, .unset, .unset, .unset, .unset] []))
          exact K89 T300 e300 X300 (own_max (1 : Int64) (a &&& (9223372036854775807 : Int64))) (1 : Int64) (mode &&& (3 : Int32)) (own_mge _) (by decide)
        · refine Done.step (fun _ => XS.ifYes X300.here hx rfl (pc0 := 61) (pc' := 68) rfl (hb hby at_61) rfl (XT.ll_ne_t hc305) (by decide) (by decide)) ?_
          show Done _ p e below s _ _ (T300.setTop (mkF m 68 #[oJ a, .second, oJ b, .second, oI c1, oI c2, oI mode, oI lens, oJ (own_max (1 : Int64) (a &&& (9223372036854775807 : Int64))), .second, oI (mode &&& (3 : Int32)), .unset, .unset, .unset, .unset, .unset, .unset, .unset, .unset, .unset, .unset, .unset] []))
          refine Done.step (fun _ => XT.lload X300.here hx rfl (hb hby at_68) rfl) ?_
          show Done _ p e below s _ _ (T300.setTop (mkF m 70 #[oJ a, .second, oJ b, .second, oI c1, oI c2, oI mode, oI lens, oJ (own_max (1 : Int64) (a &&& (9223372036854775807 : Int64))), .second, oI (mode &&& (3 : Int32)), .unset, .unset, .unset, .unset, .unset, .unset, .unset, .unset, .unset, .unset, .unset] [(.long (own_max (1 : Int64) (a &&& (9223372036854775807 : Int64))))]))
          refine Done.step (fun _ => XT.lconstV X300.here hx rfl (1 : Int64) (hb hby at_70) (by decide)) ?_
          show Done _ p e below s _ _ (T300.setTop (mkF m 71 #[oJ a, .second, oJ b, .second, oI c1, oI c2, oI mode, oI lens, oJ (own_max (1 : Int64) (a &&& (9223372036854775807 : Int64))), .second, oI (mode &&& (3 : Int32)), .unset, .unset, .unset, .unset, .unset, .unset, .unset, .unset, .unset, .unset, .unset] [(.long (1 : Int64)), (.long (own_max (1 : Int64) (a &&& (9223372036854775807 : Int64))))]))
          refine Done.step (fun _ => XT.ladd X300.here hx rfl (hb hby at_71) rfl) ?_
          show Done _ p e below s _ _ (T300.setTop (mkF m 72 #[oJ a, .second, oJ b, .second, oI c1, oI c2, oI mode, oI lens, oJ (own_max (1 : Int64) (a &&& (9223372036854775807 : Int64))), .second, oI (mode &&& (3 : Int32)), .unset, .unset, .unset, .unset, .unset, .unset, .unset, .unset, .unset, .unset, .unset] [(.long ((own_max (1 : Int64) (a &&& (9223372036854775807 : Int64))) + (1 : Int64)))]))
          refine Done.step (fun _ => XT.lstore X300.here hx rfl (hb hby at_72) rfl (l' := #[oJ a, .second, oJ b, .second, oI c1, oI c2, oI mode, oI lens, oJ (own_max (1 : Int64) (a &&& (9223372036854775807 : Int64))), .second, oI (mode &&& (3 : Int32)), oJ ((own_max (1 : Int64) (a &&& (9223372036854775807 : Int64))) + (1 : Int64)), .second, .unset, .unset, .unset, .unset, .unset, .unset, .unset, .unset, .unset]) rfl) ?_
          show Done _ p e below s _ _ (T300.setTop (mkF m 74 #[oJ a, .second, oJ b, .second, oI c1, oI c2, oI mode, oI lens, oJ (own_max (1 : Int64) (a &&& (9223372036854775807 : Int64))), .second, oI (mode &&& (3 : Int32)), oJ ((own_max (1 : Int64) (a &&& (9223372036854775807 : Int64))) + (1 : Int64)), .second, .unset, .unset, .unset, .unset, .unset, .unset, .unset, .unset, .unset] []))
          refine Done.step (fun _ => XS.goto X300.here hx rfl (pc0 := 74) (pc' := 89) rfl (hb hby at_74) (by decide) (by decide)) ?_
          show Done _ p e below s _ _ (T300.setTop (mkF m 89 #[oJ a, .second, oJ b, .second, oI c1, oI c2, oI mode, oI lens, oJ (own_max (1 : Int64) (a &&& (9223372036854775807 : Int64))), .second, oI (mode &&& (3 : Int32)), oJ ((own_max (1 : Int64) (a &&& (9223372036854775807 : Int64))) + (1 : Int64)), .second, .unset, .unset, .unset, .unset, .unset, .unset, .unset, .unset, .unset] []))
          exact K89 T300 e300 X300 (own_max (1 : Int64) (a &&& (9223372036854775807 : Int64))) ((own_max (1 : Int64) (a &&& (9223372036854775807 : Int64))) + (1 : Int64)) (mode &&& (3 : Int32)) (own_mge _) (own_inc (own_mge _) hc305)
      · refine Done.step (fun _ => XS.icmpYes X300.here hx rfl (pc0 := 52) (pc' := 77) rfl (hb hby at_52) rfl (XT.ii_ne_t hc304) (by decide) (by decide)) ?_
        show Done _ p e below s _ _ (T300.setTop (mkF m 77 #[oJ a, .second, oJ b, .second, oI c1, oI c2, oI mode, oI lens, oJ (own_max (1 : Int64) (a &&& (9223372036854775807 : Int64))), .second, oI (mode &&& (3 : Int32)), .unset, .unset, .unset, .unset, .unset, .unset, .unset, .unset, .unset, .unset, .unset] []))
        refine Done.step (fun _ => XT.lconstV X300.here hx rfl (1 : Int64) (hb hby at_77) (by decide)) ?_
        show Done _ p e below s _ _ (T300.setTop (mkF m 78 #[oJ a, .second, oJ b, .second, oI c1, oI c2, oI mode, oI lens, oJ (own_max (1 : Int64) (a &&& (9223372036854775807 : Int64))), .second, oI (mode &&& (3 : Int32)), .unset, .unset, .unset, .unset, .unset, .unset, .unset, .unset, .unset, .unset, .unset] [(.long (1 : Int64))]))
        refine Done.step (fun _ => XT.lload X300.here hx rfl (hb hby at_78) rfl) ?_
        show Done _ p e below s _ _ (T300.setTop (mkF m 80 #[oJ a, .second, oJ b, .second, oI c1, oI c2, oI mode, oI lens, oJ (own_max (1 : Int64) (a &&& (9223372036854775807 : Int64))), .second, oI (mode &&& (3 : Int32)), .unset, .unset, .unset, .unset, .unset, .unset, .unset, .unset, .unset, .unset, .unset] [(.long (own_max (1 : Int64) (a &&& (9223372036854775807 : Int64)))), (.long (1 : Int64))]))
        refine Done.step (fun _ => Stand.ldc2J X300 hx hown (mvT hZ (wAt hw 120 rfl)) (g := (mkF m 80 #[oJ a, .second, oJ b, .second, oI c1, oI c2, oI mode, oI lens, oJ (own_max (1 : Int64) (a &&& (9223372036854775807 : Int64))), .second, oI (mode &&& (3 : Int32)), .unset, .unset, .unset, .unset, .unset, .unset, .unset, .unset, .unset, .unset, .unset] [(.long (own_max (1 : Int64) (a &&& (9223372036854775807 : Int64)))), (.long (1 : Int64))])) rfl (hb hby at_80)) ?_
        show Done _ p e below s _ _ (T300.setTop (mkF m 83 #[oJ a, .second, oJ b, .second, oI c1, oI c2, oI mode, oI lens, oJ (own_max (1 : Int64) (a &&& (9223372036854775807 : Int64))), .second, oI (mode &&& (3 : Int32)), .unset, .unset, .unset, .unset, .unset, .unset, .unset, .unset, .unset, .unset, .unset] [(.long (4294967296 : Int64)), (.long (own_max (1 : Int64) (a &&& (9223372036854775807 : Int64)))), (.long (1 : Int64))]))
        refine Done.step (fun _ => XT.lxor X300.here hx rfl (hb hby at_83) rfl) ?_
        show Done _ p e below s _ _ (T300.setTop (mkF m 84 #[oJ a, .second, oJ b, .second, oI c1, oI c2, oI mode, oI lens, oJ (own_max (1 : Int64) (a &&& (9223372036854775807 : Int64))), .second, oI (mode &&& (3 : Int32)), .unset, .unset, .unset, .unset, .unset, .unset, .unset, .unset, .unset, .unset, .unset] [(.long ((own_max (1 : Int64) (a &&& (9223372036854775807 : Int64))) ^^^ (4294967296 : Int64))), (.long (1 : Int64))]))
        refine Done.callSP X300 hx hZ hown (wAt hw 1 rfl) (wAt hw 2 rfl) (wAt hw 3 rfl) (wAt hw 4 rfl) (by decide) (rmMx l Z a0 hw [] (1 : Int64) ((own_max (1 : Int64) (a &&& (9223372036854775807 : Int64))) ^^^ (4294967296 : Int64)) h0 n0 Z0) e300 (g := (mkF m 84 #[oJ a, .second, oJ b, .second, oI c1, oI c2, oI mode, oI lens, oJ (own_max (1 : Int64) (a &&& (9223372036854775807 : Int64))), .second, oI (mode &&& (3 : Int32)), .unset, .unset, .unset, .unset, .unset, .unset, .unset, .unset, .unset, .unset, .unset] [(.long ((own_max (1 : Int64) (a &&& (9223372036854775807 : Int64))) ^^^ (4294967296 : Int64))), (.long (1 : Int64))])) rfl (by rw [hml]; rfl) [(.long (1 : Int64)), (.long ((own_max (1 : Int64) (a &&& (9223372036854775807 : Int64))) ^^^ (4294967296 : Int64)))] [] 0 (lenOf pd_14 rfl) rfl rfl (by show 2 * 0 + _ ≤ _; exact Nat.le_of_eq rfl) (hb hby at_84) (by decide) (by decide) (by decide) (by decide) rfl rfl ?_
        intro T306 X306 e306
        show Done _ p e below s _ _ (T306.setTop (mkF m 87 #[oJ a, .second, oJ b, .second, oI c1, oI c2, oI mode, oI lens, oJ (own_max (1 : Int64) (a &&& (9223372036854775807 : Int64))), .second, oI (mode &&& (3 : Int32)), .unset, .unset, .unset, .unset, .unset, .unset, .unset, .unset, .unset, .unset, .unset] [(.long (own_max (1 : Int64) ((own_max (1 : Int64) (a &&& (9223372036854775807 : Int64))) ^^^ (4294967296 : Int64))))]))
        refine Done.step (fun _ => XT.lstore X306.here hx rfl (hb hby at_87) rfl (l' := #[oJ a, .second, oJ b, .second, oI c1, oI c2, oI mode, oI lens, oJ (own_max (1 : Int64) (a &&& (9223372036854775807 : Int64))), .second, oI (mode &&& (3 : Int32)), oJ (own_max (1 : Int64) ((own_max (1 : Int64) (a &&& (9223372036854775807 : Int64))) ^^^ (4294967296 : Int64))), .second, .unset, .unset, .unset, .unset, .unset, .unset, .unset, .unset, .unset]) rfl) ?_
        show Done _ p e below s _ _ (T306.setTop (mkF m 89 #[oJ a, .second, oJ b, .second, oI c1, oI c2, oI mode, oI lens, oJ (own_max (1 : Int64) (a &&& (9223372036854775807 : Int64))), .second, oI (mode &&& (3 : Int32)), oJ (own_max (1 : Int64) ((own_max (1 : Int64) (a &&& (9223372036854775807 : Int64))) ^^^ (4294967296 : Int64))), .second, .unset, .unset, .unset, .unset, .unset, .unset, .unset, .unset, .unset] []))
        exact K89 T306 e306 X306 (own_max (1 : Int64) (a &&& (9223372036854775807 : Int64))) (own_max (1 : Int64) ((own_max (1 : Int64) (a &&& (9223372036854775807 : Int64))) ^^^ (4294967296 : Int64))) (mode &&& (3 : Int32)) (own_mge _) (own_mge _)
set_option maxRecDepth 65536 in
set_option maxHeartbeats 40000000 in
theorem comes_1 {Post : Tables → Env → Array Value → State → Outcome → State → Prop} (hpost : ∀ tb e args s v u, (limb_1_1.after args s (.returned v) u = true ∧ limb_1_2.after args s (.returned v) u = true ∧ True) → ReturnedEndW s (.returned v) u (Jvm.fieldLocs frame_1_writes args s ++ Jvm.arrayLocs frame_1_arrays args s ++ Jvm.staticLocs frame_1_statics s) 32 1152 → Post tb e args s (.returned v) u) :
    ArmFor flags0 classFile x code maxLocals ret World_1 tables_1 room_1 Calls_1 rest_1 Pre_1 Post := by
  intro l hfl _ _ p e ha hc hk s m args below hf hA hF happ hP
  obtain ⟨hcalls, hrest, hpre⟩ := hP
  obtain ⟨-, -, -, hnamed, -, -, -, hat⟩ := (Spec.applies_iff hf).mp happ
  obtain ⟨hg, hn⟩ := and_e (Cond.before_iff.mp (show (Jvm.Cond.and given_1 narrow_1).before args s = true from hpre))
  obtain ⟨w0, w1, w2, w3, w4, w5, rfl⟩ : ∃ w0 w1 w2 w3 w4 w5 : Value, args = #[w0, w1, w2, w3, w4, w5] := by
    have hs : args.size = 6 := by simpa [Cond.value] using (and_e hg).1
    obtain ⟨L⟩ := args
    match L, hs with
    | [w0, w1, w2, w3, w4, w5], _ => exact ⟨w0, w1, w2, w3, w4, w5, rfl⟩
  have hw := fun d (hd : d ∈ tables_1) => atoms_spec (ws := Jvm.Cond.code x code maxLocals ret :: tables_1) hat d (List.mem_cons_of_mem _ hd)
  have hfit : Fit s := fun {y c} hc i hi => by
    obtain ⟨ha, rfl⟩ := Array.getElem?_eq_some_iff.mp hc
    have q := List.all_eq_true.mp ((Array.all_eq_true_iff_forall_mem.mp hF) _ (Array.getElem_mem ha)) i (List.mem_range.mpr hi)
    simpa [Array.getElem?_eq_getElem hi] using q
  obtain ⟨hsets, hown0⟩ := atoms_of _ (rest_1_c_eq ▸ (show rest_1_c.before _ s = true from hrest))
  have hr0 := Cond.before_iff.mp hown0
  obtain ⟨_, hg0⟩ := and_e hg
  obtain ⟨ga0, hg1⟩ := and_e hg0
  obtain ⟨i0, ei0⟩ := isL_v ga0
  obtain rfl : w0 = (.long i0) := Option.some.inj ei0
  obtain ⟨ga1, hg2⟩ := and_e hg1
  obtain ⟨i1, ei1⟩ := isL_v ga1
  obtain rfl : w1 = (.long i1) := Option.some.inj ei1
  obtain ⟨ga2, hg3⟩ := and_e hg2
  obtain ⟨i2, ei2⟩ := is_v ga2
  obtain rfl : w2 = (.int i2) := Option.some.inj ei2
  obtain ⟨ga3, hg4⟩ := and_e hg3
  obtain ⟨i3, ei3⟩ := is_v ga3
  obtain rfl : w3 = (.int i3) := Option.some.inj ei3
  obtain ⟨ga4, hg5⟩ := and_e hg4
  obtain ⟨i4, ei4⟩ := is_v ga4
  obtain rfl : w4 = (.int i4) := Option.some.inj ei4
  obtain ⟨i5, ei5⟩ := is_v hg5
  obtain rfl : w5 = (.int i5) := Option.some.inj ei5
  obtain ⟨z, ez⟩ := is_v (Cond.before_iff.mp (hsets _ (List.mem_of_getElem? (i := 1) rfl)))
  have SC := Sta.start ez (Or.inl (hsets _ (List.mem_of_getElem? (i := 0) rfl)))
  have hz : ¬ z = 0 := fun q => gotF (eq_v ez) (not_v (Cond.before_iff.mp (hsets _ (List.mem_of_getElem? (i := 2) rfl)))) q
  obtain ⟨fm, ef, rF⟩ := isR_v (Cond.before_iff.mp (hsets _ (List.mem_of_getElem? (i := 8) rfl)))
  have SF := Sta.start ef (Or.inl (hsets _ (List.mem_of_getElem? (i := 7) rfl)))
  have hcw : Jvm.Lit.compactW.before #[(.long i0), (.long i1), (.int i2), (.int i3), (.int i4), (.int i5)] s = true := hsets _ (List.mem_of_getElem? (i := 2) rfl)
  have hh : Jvm.Lit.constHeld s "java/lang/String" 7 := hcalls.1 _ (List.mem_of_getElem? (i := 0) rfl)
  obtain ⟨n, o, h1, h2, h3, _, L, rfl, ⟨rfl, N⟩, hq⟩ := rm0 l s _ hw tables_1 i0 i1 i2 i3 i4 i5 z fm s.heap s.heap.size (Nat.le_refl _) (Old.start s) SC hz SF rF hh hcw p e ha hc hk s m _ below hf ((Spec.applies_iff_loose hf).mp happ).1 ⟨rfl, State.Warmed39.refl s, rfl, IB.start⟩ trivial
  refine ⟨n, _, h1, h2, h3, hpost _ _ _ _ _ _ ⟨Cond.after_iff.mpr rfl, Cond.after_iff.mpr (eq_i res_at (Term.int_eval (1)) rfl), trivial⟩ ⟨hq.1, hq.2.1, hq.2.2.1, (hq.2.2.2.sift fun y hy => Or.inr (N y hy)).mono (by decide) (by decide)⟩⟩
theorem main_1_1 : Claimed_1_1 := comes_1 fun _ _ _ _ _ _ h hF => ⟨h.1, hF⟩
theorem main_1_2 : Claimed_1_2 := comes_1 fun _ _ _ _ _ _ h hF => ⟨h.2.1, hF⟩
end Jvm.Pilot.@@N@@
namespace Jvm.Pilot.@@N@@
open Jvm Jvm.ClassFile Sem Op Lib Jvm.Free Jvm.Stand Jvm.Pilot.@@N@@.Jvm.D
/-! MADE BY PROGRAM (witnessworld.py) out of the Statement's table words and the real class files: 23 classes; the members and pool entries that the words name. The judged class is class 1, her method 1. -/
namespace start1
open Jvm.ClassFile
def u (s : String) : CpInfo := .utf8 (stringToUtf16 s)
/-- a pool by its gaps: so many unusable entries, then the entry; so many at the end -/
def gap : Nat → List CpInfo → List CpInfo
  | 0, r => r
  | n + 1, r => .unusable :: gap n r
def poolList (es : List (Nat × CpInfo)) (last : Nat) : List CpInfo := es.foldr (fun e r => gap e.1 (e.2 :: r)) (gap last [])
def pool (es : List (Nat × CpInfo)) (last : Nat) : Array CpInfo := ⟨poolList es last⟩
def fileOf (pool : Array CpInfo) (this : Nat) (attrs : Array Attribute := #[]) (ms : Array MethodInfo := #[]) (fl : Nat := 33) (sup : Nat := 0) (ifs : Array Nat := #[]) (fds : Array FieldInfo := #[]) : ClassFile where
  minorVersion := 0
  majorVersion := 65
  constantPool := pool
  accessFlags := fl
  thisClass := this
  superClass := sup
  interfaces := ifs
  fields := fds
  methods := ms
  attributes := attrs
def plain (name : String) (sup : Option ClassId) : Class where
  name := name
  kind := .ordinary
  loader := none
  accessFlags := 33
  super := sup
  interfaces := #[]
  cf := none
  fields := #[]
  methods := #[]
  instanceTypes := #[]
  staticTypes := #[]
  resolved := #[]
  callSites := []
  init := .initialized
  statics := none
  mirror := none

def pool0 : Array CpInfo := pool [(5, u "<init>"), (0, u "()V"), (1, .class_ 10), (1, u "java/lang/Object")] 113

def k0c0 : Code := { maxStack := 0, maxLocals := 1, code := object_method_1_code, exceptionTable := #[], attributes := #[] }
def k0m0 : Method := { name := "<init>", desc := "()V", sig := { parameters := [], returnType := none }, accessFlags := 1, code := some k0c0 }
/-- java/lang/Object -/
def k0 : Class := { plain "java/lang/Object" none with
  accessFlags := 33
  interfaces := #[]
  cf := some (fileOf pool0 8 #[] #[{ accessFlags := 1, nameIndex := 5, descriptorIndex := 6, attributes := #[] }] 33 0 #[] #[])
  fields := #[]
  methods := #[k0m0]
  instanceTypes := #[]
  staticTypes := #[]
  resolved := Array.replicate 124 none
  statics := none }

def pool1 : Array CpInfo := pool [(2, .class_ 4), (1, u "java/lang/Object"), (0, u "<init>"), (0, u "()V"), (2, .long 9223372036854775807), (1, .methodref 12 13), (0, .class_ 14), (0, .nameAndType 15 16), (0, u "java/lang/Math"), (0, u "max"), (0, u "(JJ)J"), (0, .long 4294967296), (1, .methodref 20 21), (0, .class_ 22), (0, .nameAndType 23 24), (0, u "com/example/minho/minho/core/VersionedValueEqualsPinLaw"), (0, u "mk"), (0, u "(II)Ljava/lang/String;"), (0, .methodref 20 26), (0, .nameAndType 27 28), (0, u "ch"), (0, u "(II)C"), (0, .class_ 30), (0, u "com/example/minho/minho/core/VersionedValue"), (0, .methodref 29 32), (0, .nameAndType 5 33), (0, u "(Ljava/lang/String;J)V"), (0, .methodref 29 35), (0, .nameAndType 36 37), (0, u "equals"), (0, u "(Ljava/lang/Object;)Z"), (0, .class_ 39), (0, u "java/lang/String"), (0, .methodref 38 41), (0, .nameAndType 5 42), (0, u "([C)V"), (2, u "law"), (0, u "(JJIIII)Z")] 3

def k1m0 : Method := { name := "<init>", desc := "()V", sig := { parameters := [], returnType := none }, accessFlags := 1, code := none }
def k1c1 : Code := { maxStack := 6, maxLocals := 22, code := code, exceptionTable := #[], attributes := #[] }
def k1m1 : Method := { name := "law", desc := "(JJIIII)Z", sig := { parameters := [.long, .long, .int, .int, .int, .int], returnType := some .boolean }, accessFlags := 9, code := some k1c1 }
def k1c2 : Code := { maxStack := 3, maxLocals := 2, code := method_3_code, exceptionTable := #[], attributes := #[] }
def k1m2 : Method := { name := "ch", desc := "(II)C", sig := { parameters := [.int, .int], returnType := some .char }, accessFlags := 10, code := some k1c2 }
def k1c3 : Code := { maxStack := 7, maxLocals := 2, code := method_4_code, exceptionTable := #[], attributes := #[] }
def k1m3 : Method := { name := "mk", desc := "(II)Ljava/lang/String;", sig := { parameters := [.int, .int], returnType := some (.object "java/lang/String") }, accessFlags := 10, code := some k1c3 }
/-- com/example/minho/minho/core/VersionedValueEqualsPinLaw -/
def k1 : Class := { plain "com/example/minho/minho/core/VersionedValueEqualsPinLaw" (some 0) with
  accessFlags := 49
  interfaces := #[]
  cf := some (fileOf pool1 20 #[] #[{ accessFlags := 1, nameIndex := 5, descriptorIndex := 6, attributes := #[] }, { accessFlags := 9, nameIndex := 45, descriptorIndex := 46, attributes := #[] }, { accessFlags := 10, nameIndex := 27, descriptorIndex := 28, attributes := #[] }, { accessFlags := 10, nameIndex := 23, descriptorIndex := 24, attributes := #[] }] 49 2 #[] #[])
  fields := #[]
  methods := #[k1m0, k1m1, k1m2, k1m3]
  instanceTypes := #[]
  staticTypes := #[]
  resolved := Array.replicate 50 none
  statics := none }

def pool2 : Array CpInfo := pool [(1, .class_ 2), (0, u "java/lang/Math"), (1, .class_ 6), (1, u "java/lang/Object"), (0, u "<init>"), (0, u "()V"), (89, .class_ 100), (1, u "java/lang/Math$RandomNumberGeneratorHolder"), (20, u "(JJ)J"), (50, u "negativeZeroFloatBits"), (0, u "J"), (2, u "negativeZeroDoubleBits"), (21, u "max"), (46, u "$assertionsDisabled"), (0, u "Z"), (91, u "twoToTheDoubleScaleDown"), (0, u "D"), (4, u "twoToTheDoubleScaleUp"), (9, u "E"), (3, u "PI"), (2, u "TAU"), (2, u "DEGREES_TO_RADIANS"), (0, u "RADIANS_TO_DEGREES")] 94

def k2m0 : Method := { name := "<init>", desc := "()V", sig := { parameters := [], returnType := none }, accessFlags := 2, code := none }
def k2c1 : Code := { maxStack := 4, maxLocals := 4, code := jdk_29_method_66_code, exceptionTable := #[], attributes := #[] }
def k2m1 : Method := { name := "max", desc := "(JJ)J", sig := { parameters := [.long, .long], returnType := some .long }, accessFlags := 9, code := some k2c1 }
/-- java/lang/Math -/
def k2 : Class := { plain "java/lang/Math" (some 0) with
  accessFlags := 49
  interfaces := #[]
  cf := some (fileOf pool2 1 #[.nestMembers #[98]] #[{ accessFlags := 2, nameIndex := 7, descriptorIndex := 8, attributes := #[] }, { accessFlags := 9, nameIndex := 198, descriptorIndex := 121, attributes := #[] }] 49 4 #[] #[{ accessFlags := 25, nameIndex := 354, descriptorIndex := 339, attributes := #[] }, { accessFlags := 25, nameIndex := 358, descriptorIndex := 339, attributes := #[] }, { accessFlags := 25, nameIndex := 361, descriptorIndex := 339, attributes := #[] }, { accessFlags := 26, nameIndex := 364, descriptorIndex := 339, attributes := #[] }, { accessFlags := 26, nameIndex := 365, descriptorIndex := 339, attributes := #[] }, { accessFlags := 26, nameIndex := 172, descriptorIndex := 173, attributes := #[] }, { accessFlags := 26, nameIndex := 176, descriptorIndex := 173, attributes := #[] }, { accessFlags := 8, nameIndex := 344, descriptorIndex := 339, attributes := #[] }, { accessFlags := 8, nameIndex := 338, descriptorIndex := 339, attributes := #[] }, { accessFlags := 4120, nameIndex := 245, descriptorIndex := 246, attributes := #[] }])
  fields := #[{ name := "E", type := .double, accessFlags := 25, slot := 0, constantValue := 0 }, { name := "PI", type := .double, accessFlags := 25, slot := 1, constantValue := 0 }, { name := "TAU", type := .double, accessFlags := 25, slot := 2, constantValue := 0 }, { name := "DEGREES_TO_RADIANS", type := .double, accessFlags := 26, slot := 3, constantValue := 0 }, { name := "RADIANS_TO_DEGREES", type := .double, accessFlags := 26, slot := 4, constantValue := 0 }, { name := "negativeZeroFloatBits", type := .long, accessFlags := 26, slot := 5, constantValue := 0 }, { name := "negativeZeroDoubleBits", type := .long, accessFlags := 26, slot := 6, constantValue := 0 }, { name := "twoToTheDoubleScaleUp", type := .double, accessFlags := 8, slot := 7, constantValue := 0 }, { name := "twoToTheDoubleScaleDown", type := .double, accessFlags := 8, slot := 8, constantValue := 0 }, { name := "$assertionsDisabled", type := .boolean, accessFlags := 4120, slot := 9, constantValue := 0 }]
  methods := #[k2m0, k2m1]
  instanceTypes := #[]
  staticTypes := #[.double, .double, .double, .double, .double, .long, .long, .double, .double, .boolean]
  resolved := Array.replicate 460 none
  statics := none }

def pool3 : Array CpInfo := pool [(1, .class_ 2), (0, u "java/io/Serializable"), (0, .class_ 4), (0, u "java/lang/Object")] 2

/-- java/io/Serializable -/
def k3 : Class := { plain "java/io/Serializable" (some 0) with
  accessFlags := 1537
  interfaces := #[]
  cf := some (fileOf pool3 1 #[] #[] 1537 3 #[] #[])
  fields := #[]
  methods := #[]
  instanceTypes := #[]
  staticTypes := #[]
  resolved := Array.replicate 7 none
  statics := none }

def pool4 : Array CpInfo := pool [(1, .class_ 2), (0, u "java/lang/Comparable"), (0, .class_ 4), (0, u "java/lang/Object")] 7

/-- java/lang/Comparable -/
def k4 : Class := { plain "java/lang/Comparable" (some 0) with
  accessFlags := 1537
  interfaces := #[]
  cf := some (fileOf pool4 1 #[] #[] 1537 3 #[] #[])
  fields := #[]
  methods := #[]
  instanceTypes := #[]
  staticTypes := #[]
  resolved := Array.replicate 12 none
  statics := none }

def pool5 : Array CpInfo := pool [(2, .class_ 4), (1, u "java/lang/CharSequence"), (42, .class_ 48), (0, u "java/lang/CharSequence$1CodePointIterator"), (10, .class_ 60), (0, u "java/lang/CharSequence$1CharIterator"), (5, .class_ 67), (0, u "java/lang/Object")] 63

/-- java/lang/CharSequence -/
def k5 : Class := { plain "java/lang/CharSequence" (some 0) with
  accessFlags := 1537
  interfaces := #[]
  cf := some (fileOf pool5 2 #[.nestMembers #[47, 59]] #[] 1537 66 #[] #[])
  fields := #[]
  methods := #[]
  instanceTypes := #[]
  staticTypes := #[]
  resolved := Array.replicate 131 none
  statics := none }

def pool6 : Array CpInfo := pool [(1, .class_ 2), (0, u "java/lang/constant/Constable"), (0, .class_ 4), (0, u "java/lang/Object")] 6

/-- java/lang/constant/Constable -/
def k6 : Class := { plain "java/lang/constant/Constable" (some 0) with
  accessFlags := 1537
  interfaces := #[]
  cf := some (fileOf pool6 1 #[] #[] 1537 3 #[] #[])
  fields := #[]
  methods := #[]
  instanceTypes := #[]
  staticTypes := #[]
  resolved := Array.replicate 11 none
  statics := none }

def pool7 : Array CpInfo := pool [(1, .class_ 2), (0, u "java/lang/constant/ConstantDesc"), (0, .class_ 4), (0, u "java/lang/Object")] 32

/-- java/lang/constant/ConstantDesc -/
def k7 : Class := { plain "java/lang/constant/ConstantDesc" (some 0) with
  accessFlags := 1537
  interfaces := #[]
  cf := some (fileOf pool7 1 #[] #[] 1537 3 #[] #[])
  fields := #[]
  methods := #[]
  instanceTypes := #[]
  staticTypes := #[]
  resolved := Array.replicate 37 none
  statics := none }

def pool8 : Array CpInfo := pool [(1, .methodref 2 3), (0, .class_ 4), (0, .nameAndType 5 6), (0, u "java/lang/Object"), (0, u "<init>"), (0, u "()V"), (0, .string 8), (0, u ""), (0, .fieldref 10 11), (0, .class_ 12), (0, .nameAndType 13 14), (0, u "java/lang/String"), (0, u "value"), (0, u "[B"), (0, .fieldref 10 16), (0, .nameAndType 17 18), (0, u "coder"), (0, u "B"), (2, u "hash"), (0, u "I"), (2, u "hashIsZero"), (0, u "Z"), (0, .methodref 10 28), (0, .nameAndType 5 29), (0, u "([CIILjava/lang/Void;)V"), (8, .fieldref 10 39), (0, .nameAndType 40 26), (0, u "COMPACT_STRINGS"), (1, .class_ 44), (1, u "java/lang/StringUTF16"), (0, u "compress"), (1, .methodref 42 48), (0, .nameAndType 49 50), (0, u "coderFromArrayLen"), (0, u "([BI)B"), (56, .class_ 109), (1, u "java/lang/StringLatin1"), (32, u "()Z"), (34, .methodref 42 178), (0, .nameAndType 45 179), (0, u "([CII)[B"), (154, u "()I"), (0, .methodref 10 336), (0, .nameAndType 17 337), (0, u "()B"), (53, u "(II)V"), (100, .methodref 10 493), (0, .nameAndType 494 142), (0, u "isLatin1"), (4, .methodref 10 500), (0, .nameAndType 501 391), (0, u "checkIndex"), (2, u "codePointAt"), (2, u "length"), (33, .methodref 107 542), (0, .nameAndType 543 544), (0, u "equals"), (0, u "([B[B)Z"), (28, u "(Ljava/lang/Object;)Z"), (1, .class_ 576), (0, u "java/lang/CharSequence"), (22, u "CASE_INSENSITIVE_ORDER"), (0, u "Ljava/util/Comparator;"), (164, u "(I)I"), (244, u "([C)V"), (42, .fieldref 1054 1055), (0, .class_ 1056), (0, .nameAndType 1057 1058), (0, u "jdk/internal/util/Preconditions"), (0, u "SIOOBE_FORMATTER"), (0, u "Ljava/util/function/BiFunction;"), (0, .methodref 1054 1060), (0, .nameAndType 501 1061), (0, u "(IILjava/util/function/BiFunction;)I"), (39, u "serialPersistentFields"), (0, u "[Ljava/io/ObjectStreamField;"), (0, .class_ 1104), (0, u "java/lang/String$CaseInsensitiveComparator"), (1, .class_ 1107), (0, u "java/io/Serializable"), (0, .class_ 1109), (0, u "java/lang/Comparable"), (0, .class_ 1111), (0, u "java/lang/constant/Constable"), (0, .class_ 1113), (0, u "java/lang/constant/ConstantDesc"), (2, u "serialVersionUID"), (0, u "J"), (3, u "REPL"), (0, u "C"), (2, u "LATIN1"), (1, u "UTF16")] 323

def k8m0 : Method := { name := "<init>", desc := "()V", sig := { parameters := [], returnType := none }, accessFlags := 1, code := none }
def k8c1 : Code := { maxStack := 5, maxLocals := 2, code := jdk_42_method_3_code, exceptionTable := #[], attributes := #[] }
def k8m1 : Method := { name := "<init>", desc := "([C)V", sig := { parameters := [(.array .char)], returnType := none }, accessFlags := 1, code := some k8c1 }
def k8c2 : Code := { maxStack := 2, maxLocals := 1, code := jdk_42_method_54_code, exceptionTable := #[], attributes := #[] }
def k8m2 : Method := { name := "length", desc := "()I", sig := { parameters := [], returnType := some .int }, accessFlags := 1, code := some k8c2 }
def k8c3 : Code := { maxStack := 3, maxLocals := 3, code := jdk_42_method_57_code, exceptionTable := #[], attributes := #[] }
def k8m3 : Method := { name := "codePointAt", desc := "(I)I", sig := { parameters := [.int], returnType := some .int }, accessFlags := 1, code := some k8c3 }
def k8c4 : Code := { maxStack := 2, maxLocals := 3, code := jdk_42_method_66_code, exceptionTable := #[], attributes := #[] }
def k8m4 : Method := { name := "equals", desc := "(Ljava/lang/Object;)Z", sig := { parameters := [(.object "java/lang/Object")], returnType := some .boolean }, accessFlags := 1, code := some k8c4 }
def k8c5 : Code := { maxStack := 4, maxLocals := 6, code := jdk_42_method_149_code, exceptionTable := #[], attributes := #[] }
def k8m5 : Method := { name := "<init>", desc := "([CIILjava/lang/Void;)V", sig := { parameters := [(.array .char), .int, .int, (.object "java/lang/Void")], returnType := none }, accessFlags := 2, code := some k8c5 }
def k8c6 : Code := { maxStack := 1, maxLocals := 1, code := jdk_42_method_152_code, exceptionTable := #[], attributes := #[] }
def k8m6 : Method := { name := "coder", desc := "()B", sig := { parameters := [], returnType := some .byte }, accessFlags := 0, code := some k8c6 }
def k8c7 : Code := { maxStack := 1, maxLocals := 1, code := jdk_42_method_154_code, exceptionTable := #[], attributes := #[] }
def k8m7 : Method := { name := "isLatin1", desc := "()Z", sig := { parameters := [], returnType := some .boolean }, accessFlags := 0, code := some k8c7 }
def k8c8 : Code := { maxStack := 3, maxLocals := 2, code := jdk_42_method_155_code, exceptionTable := #[], attributes := #[] }
def k8m8 : Method := { name := "checkIndex", desc := "(II)V", sig := { parameters := [.int, .int], returnType := none }, accessFlags := 8, code := some k8c8 }
/-- java/lang/String -/
def k8 : Class := { plain "java/lang/String" (some 0) with
  accessFlags := 49
  interfaces := #[3, 4, 5, 6, 7]
  cf := some (fileOf pool8 10 #[.nestMembers #[1103]] #[{ accessFlags := 1, nameIndex := 5, descriptorIndex := 6, attributes := #[] }, { accessFlags := 1, nameIndex := 5, descriptorIndex := 1010, attributes := #[] }, { accessFlags := 1, nameIndex := 507, descriptorIndex := 334, attributes := #[] }, { accessFlags := 1, nameIndex := 504, descriptorIndex := 765, attributes := #[] }, { accessFlags := 1, nameIndex := 543, descriptorIndex := 573, attributes := #[] }, { accessFlags := 2, nameIndex := 5, descriptorIndex := 29, attributes := #[] }, { accessFlags := 0, nameIndex := 17, descriptorIndex := 337, attributes := #[] }, { accessFlags := 0, nameIndex := 494, descriptorIndex := 142, attributes := #[] }, { accessFlags := 8, nameIndex := 501, descriptorIndex := 391, attributes := #[] }] 49 2 #[1106, 1108, 575, 1110, 1112] #[{ accessFlags := 18, nameIndex := 13, descriptorIndex := 14, attributes := #[] }, { accessFlags := 18, nameIndex := 17, descriptorIndex := 18, attributes := #[] }, { accessFlags := 2, nameIndex := 21, descriptorIndex := 22, attributes := #[] }, { accessFlags := 2, nameIndex := 25, descriptorIndex := 26, attributes := #[] }, { accessFlags := 26, nameIndex := 1116, descriptorIndex := 1117, attributes := #[] }, { accessFlags := 24, nameIndex := 40, descriptorIndex := 26, attributes := #[] }, { accessFlags := 26, nameIndex := 1101, descriptorIndex := 1102, attributes := #[] }, { accessFlags := 26, nameIndex := 1121, descriptorIndex := 1122, attributes := #[] }, { accessFlags := 25, nameIndex := 599, descriptorIndex := 600, attributes := #[] }, { accessFlags := 24, nameIndex := 1125, descriptorIndex := 18, attributes := #[] }, { accessFlags := 24, nameIndex := 1127, descriptorIndex := 18, attributes := #[] }])
  fields := #[{ name := "value", type := (.array .byte), accessFlags := 18, slot := 0, constantValue := 0 }, { name := "coder", type := .byte, accessFlags := 18, slot := 1, constantValue := 0 }, { name := "hash", type := .int, accessFlags := 2, slot := 2, constantValue := 0 }, { name := "hashIsZero", type := .boolean, accessFlags := 2, slot := 3, constantValue := 0 }, { name := "serialVersionUID", type := .long, accessFlags := 26, slot := 0, constantValue := 0 }, { name := "COMPACT_STRINGS", type := .boolean, accessFlags := 24, slot := 1, constantValue := 0 }, { name := "serialPersistentFields", type := (.array (.object "java/io/ObjectStreamField")), accessFlags := 26, slot := 2, constantValue := 0 }, { name := "REPL", type := .char, accessFlags := 26, slot := 3, constantValue := 0 }, { name := "CASE_INSENSITIVE_ORDER", type := (.object "java/util/Comparator"), accessFlags := 25, slot := 4, constantValue := 0 }, { name := "LATIN1", type := .byte, accessFlags := 24, slot := 5, constantValue := 0 }, { name := "UTF16", type := .byte, accessFlags := 24, slot := 6, constantValue := 0 }]
  methods := #[k8m0, k8m1, k8m2, k8m3, k8m4, k8m5, k8m6, k8m7, k8m8]
  instanceTypes := #[(.array .byte), .byte, .int, .boolean]
  staticTypes := #[.long, .boolean, (.array (.object "java/io/ObjectStreamField")), .char, (.object "java/util/Comparator"), .byte, .byte]
  resolved := Array.replicate 1451 none
  statics := some 0 }

def pool9 : Array CpInfo := pool [(6, .class_ 8), (1, u "java/lang/Object"), (0, u "<init>"), (0, u "()V"), (1, .class_ 14), (1, u "java/lang/StringUTF16"), (31, u "$assertionsDisabled"), (0, u "Z"), (13, u "HI_BYTE_SHIFT"), (0, u "I"), (2, u "LO_BYTE_SHIFT"), (49, .methodref 12 116), (0, .nameAndType 117 118), (0, u "compress"), (0, u "([CI[BII)I"), (3, u "([CII)[B"), (138, u "coderFromArrayLen"), (0, u "([BI)B"), (106, .class_ 371), (1, u "java/lang/StringUTF16$LinesSpliterator"), (58, u "MAX_LENGTH"), (196, .class_ 628), (0, u "java/lang/StringUTF16$CodePointsSpliterator"), (0, .class_ 630), (0, u "java/lang/StringUTF16$CharsSpliterator")] 4

def k9m0 : Method := { name := "<init>", desc := "()V", sig := { parameters := [], returnType := none }, accessFlags := 0, code := none }
def k9c1 : Code := { maxStack := 2, maxLocals := 2, code := jdk_52_method_15_code, exceptionTable := #[], attributes := #[] }
def k9m1 : Method := { name := "coderFromArrayLen", desc := "([BI)B", sig := { parameters := [(.array .byte), .int], returnType := some .byte }, accessFlags := 8, code := some k9c1 }
def k9c2 : Code := { maxStack := 5, maxLocals := 6, code := jdk_52_method_16_code, exceptionTable := #[], attributes := #[] }
def k9m2 : Method := { name := "compress", desc := "([CII)[B", sig := { parameters := [(.array .char), .int, .int], returnType := some (.array .byte) }, accessFlags := 9, code := some k9c2 }
def k9c3 : Code := { maxStack := 3, maxLocals := 7, code := jdk_52_method_21_code, exceptionTable := #[], attributes := #[] }
def k9m3 : Method := { name := "compress", desc := "([CI[BII)I", sig := { parameters := [(.array .char), .int, (.array .byte), .int, .int], returnType := some .int }, accessFlags := 9, code := some k9c3 }
/-- java/lang/StringUTF16 -/
def k9 : Class := { plain "java/lang/StringUTF16" (some 0) with
  accessFlags := 48
  interfaces := #[]
  cf := some (fileOf pool9 12 #[.nestMembers #[627, 629, 369]] #[{ accessFlags := 0, nameIndex := 9, descriptorIndex := 10, attributes := #[] }, { accessFlags := 8, nameIndex := 261, descriptorIndex := 262, attributes := #[] }, { accessFlags := 9, nameIndex := 117, descriptorIndex := 122, attributes := #[] }, { accessFlags := 9, nameIndex := 117, descriptorIndex := 118, attributes := #[] }] 48 6 #[] #[{ accessFlags := 26, nameIndex := 61, descriptorIndex := 62, attributes := #[] }, { accessFlags := 26, nameIndex := 65, descriptorIndex := 62, attributes := #[] }, { accessFlags := 24, nameIndex := 430, descriptorIndex := 62, attributes := #[] }, { accessFlags := 4120, nameIndex := 46, descriptorIndex := 47, attributes := #[] }])
  fields := #[{ name := "HI_BYTE_SHIFT", type := .int, accessFlags := 26, slot := 0, constantValue := 0 }, { name := "LO_BYTE_SHIFT", type := .int, accessFlags := 26, slot := 1, constantValue := 0 }, { name := "MAX_LENGTH", type := .int, accessFlags := 24, slot := 2, constantValue := 0 }, { name := "$assertionsDisabled", type := .boolean, accessFlags := 4120, slot := 3, constantValue := 0 }]
  methods := #[k9m0, k9m1, k9m2, k9m3]
  instanceTypes := #[]
  staticTypes := #[.int, .int, .int, .boolean]
  resolved := Array.replicate 635 none
  statics := none }

def pool10 : Array CpInfo := pool [(1, .methodref 2 3), (0, .class_ 4), (0, .nameAndType 5 6), (0, u "java/lang/Object"), (0, u "<init>"), (0, u "()V"), (7, .methodref 15 16), (0, .class_ 17), (0, .nameAndType 18 19), (0, u "com/example/minho/minho/core/Limits"), (0, u "requireValue"), (0, u "(Ljava/lang/String;)Ljava/lang/String;"), (0, .fieldref 21 22), (0, .class_ 23), (0, .nameAndType 24 25), (0, u "com/example/minho/minho/core/VersionedValue"), (0, u "m_value"), (0, u "Ljava/lang/String;"), (0, .fieldref 21 27), (0, .nameAndType 28 29), (0, u "m_version"), (0, u "J"), (0, .methodref 31 32), (0, .class_ 33), (0, .nameAndType 34 35), (0, u "java/lang/String"), (0, u "equals"), (0, u "(Ljava/lang/Object;)Z"), (16, u "(Ljava/lang/String;J)V")] 27

def k10c0 : Code := { maxStack := 4, maxLocals := 4, code := prog_44_method_1_code, exceptionTable := #[], attributes := #[] }
def k10m0 : Method := { name := "<init>", desc := "(Ljava/lang/String;J)V", sig := { parameters := [(.object "java/lang/String"), .long], returnType := none }, accessFlags := 1, code := some k10c0 }
def k10c1 : Code := { maxStack := 4, maxLocals := 3, code := prog_44_method_4_code, exceptionTable := #[], attributes := #[] }
def k10m1 : Method := { name := "equals", desc := "(Ljava/lang/Object;)Z", sig := { parameters := [(.object "java/lang/Object")], returnType := some .boolean }, accessFlags := 1, code := some k10c1 }
/-- com/example/minho/minho/core/VersionedValue -/
def k10 : Class := { plain "com/example/minho/minho/core/VersionedValue" (some 0) with
  accessFlags := 33
  interfaces := #[]
  cf := some (fileOf pool10 21 #[] #[{ accessFlags := 1, nameIndex := 5, descriptorIndex := 52, attributes := #[] }, { accessFlags := 1, nameIndex := 34, descriptorIndex := 35, attributes := #[] }] 33 2 #[] #[{ accessFlags := 18, nameIndex := 24, descriptorIndex := 25, attributes := #[] }, { accessFlags := 18, nameIndex := 28, descriptorIndex := 29, attributes := #[] }])
  fields := #[{ name := "m_value", type := (.object "java/lang/String"), accessFlags := 18, slot := 0, constantValue := 0 }, { name := "m_version", type := .long, accessFlags := 18, slot := 1, constantValue := 0 }]
  methods := #[k10m0, k10m1]
  instanceTypes := #[(.object "java/lang/String"), .long]
  staticTypes := #[]
  resolved := Array.replicate 80 none
  statics := none }

def pool11 : Array CpInfo := pool [(2, .class_ 4), (1, u "java/lang/Object"), (0, u "<init>"), (0, u "()V"), (1, .class_ 10), (1, u "java/lang/String"), (2, .methodref 8 14), (0, .nameAndType 15 16), (0, u "length"), (0, u "()I"), (0, .class_ 18), (0, u "com/example/minho/minho/core/Limits"), (9, u "(Ljava/lang/String;)Ljava/lang/String;"), (3, .methodref 17 33), (0, .nameAndType 34 35), (0, u "isUtf8Within"), (0, u "(Ljava/lang/String;IZ)Z"), (3, .integer 1048576), (14, .methodref 8 55), (0, .nameAndType 56 57), (0, u "codePointAt"), (0, u "(I)I"), (0, .class_ 59), (0, u "java/lang/Character"), (0, .integer 55296), (0, .integer 57343), (0, .methodref 17 63), (0, .nameAndType 64 57), (0, u "utf8Length"), (0, .methodref 58 66), (0, .nameAndType 67 57), (0, u "charCount"), (0, .integer 65536), (0, u "MAX_NAME_CHARS"), (0, u "I"), (2, u "MAX_ID_BYTES"), (1, u "MAX_VALUE_BYTES"), (0, u "MIN_TTL_MS"), (0, u "J"), (0, u "MAX_TTL_MS"), (0, u "MAX_WAIT_MS"), (0, u "DEFAULT_WAIT_MS"), (9, u "requireValue")] 22

def k11m0 : Method := { name := "<init>", desc := "()V", sig := { parameters := [], returnType := none }, accessFlags := 2, code := none }
def k11c1 : Code := { maxStack := 3, maxLocals := 1, code := prog_23_method_5_code, exceptionTable := #[], attributes := #[] }
def k11m1 : Method := { name := "requireValue", desc := "(Ljava/lang/String;)Ljava/lang/String;", sig := { parameters := [(.object "java/lang/String")], returnType := some (.object "java/lang/String") }, accessFlags := 9, code := some k11c1 }
def k11c2 : Code := { maxStack := 2, maxLocals := 6, code := prog_23_method_9_code, exceptionTable := #[], attributes := #[] }
def k11m2 : Method := { name := "isUtf8Within", desc := "(Ljava/lang/String;IZ)Z", sig := { parameters := [(.object "java/lang/String"), .int, .boolean], returnType := some .boolean }, accessFlags := 10, code := some k11c2 }
def k11c3 : Code := { maxStack := 2, maxLocals := 2, code := prog_23_method_10_code, exceptionTable := #[], attributes := #[] }
def k11m3 : Method := { name := "utf8Length", desc := "(I)I", sig := { parameters := [.int], returnType := some .int }, accessFlags := 10, code := some k11c3 }
/-- com/example/minho/minho/core/Limits -/
def k11 : Class := { plain "com/example/minho/minho/core/Limits" (some 0) with
  accessFlags := 33
  interfaces := #[]
  cf := some (fileOf pool11 17 #[] #[{ accessFlags := 2, nameIndex := 5, descriptorIndex := 6, attributes := #[] }, { accessFlags := 9, nameIndex := 90, descriptorIndex := 28, attributes := #[] }, { accessFlags := 10, nameIndex := 34, descriptorIndex := 35, attributes := #[] }, { accessFlags := 10, nameIndex := 64, descriptorIndex := 57, attributes := #[] }] 33 2 #[] #[{ accessFlags := 25, nameIndex := 69, descriptorIndex := 70, attributes := #[] }, { accessFlags := 25, nameIndex := 73, descriptorIndex := 70, attributes := #[] }, { accessFlags := 25, nameIndex := 75, descriptorIndex := 70, attributes := #[] }, { accessFlags := 25, nameIndex := 76, descriptorIndex := 77, attributes := #[] }, { accessFlags := 25, nameIndex := 78, descriptorIndex := 77, attributes := #[] }, { accessFlags := 25, nameIndex := 79, descriptorIndex := 77, attributes := #[] }, { accessFlags := 25, nameIndex := 80, descriptorIndex := 77, attributes := #[] }])
  fields := #[{ name := "MAX_NAME_CHARS", type := .int, accessFlags := 25, slot := 0, constantValue := 0 }, { name := "MAX_ID_BYTES", type := .int, accessFlags := 25, slot := 1, constantValue := 0 }, { name := "MAX_VALUE_BYTES", type := .int, accessFlags := 25, slot := 2, constantValue := 0 }, { name := "MIN_TTL_MS", type := .long, accessFlags := 25, slot := 3, constantValue := 0 }, { name := "MAX_TTL_MS", type := .long, accessFlags := 25, slot := 4, constantValue := 0 }, { name := "MAX_WAIT_MS", type := .long, accessFlags := 25, slot := 5, constantValue := 0 }, { name := "DEFAULT_WAIT_MS", type := .long, accessFlags := 25, slot := 6, constantValue := 0 }]
  methods := #[k11m0, k11m1, k11m2, k11m3]
  instanceTypes := #[]
  staticTypes := #[.int, .int, .int, .long, .long, .long, .long]
  resolved := Array.replicate 113 none
  statics := none }

def pool12 : Array CpInfo := pool [(2, .class_ 4), (1, u "java/lang/Object"), (0, u "<init>"), (0, u "()V"), (17, .class_ 26), (1, u "jdk/internal/util/Preconditions"), (6, u "checkIndex"), (21, .class_ 56), (0, u "jdk/internal/util/Preconditions$4"), (57, .class_ 115), (0, u "jdk/internal/util/Preconditions$1"), (7, u "SIOOBE_FORMATTER"), (0, u "Ljava/util/function/BiFunction;"), (0, .class_ 126), (0, u "jdk/internal/util/Preconditions$2"), (3, u "AIOOBE_FORMATTER"), (0, .class_ 132), (0, u "jdk/internal/util/Preconditions$3"), (3, u "IOOBE_FORMATTER"), (41, u "(IILjava/util/function/BiFunction;)I")] 15

def k12m0 : Method := { name := "<init>", desc := "()V", sig := { parameters := [], returnType := none }, accessFlags := 1, code := none }
def k12c1 : Code := { maxStack := 3, maxLocals := 3, code := jdk_41_method_11_code, exceptionTable := #[], attributes := #[] }
def k12m1 : Method := { name := "checkIndex", desc := "(IILjava/util/function/BiFunction;)I", sig := { parameters := [.int, .int, (.object "java/util/function/BiFunction")], returnType := some .int }, accessFlags := 9, code := some k12c1 }
/-- jdk/internal/util/Preconditions -/
def k12 : Class := { plain "jdk/internal/util/Preconditions" (some 0) with
  accessFlags := 33
  interfaces := #[]
  cf := some (fileOf pool12 24 #[.nestMembers #[55, 131, 125, 114]] #[{ accessFlags := 1, nameIndex := 5, descriptorIndex := 6, attributes := #[] }, { accessFlags := 9, nameIndex := 33, descriptorIndex := 178, attributes := #[] }] 33 2 #[] #[{ accessFlags := 25, nameIndex := 123, descriptorIndex := 124, attributes := #[] }, { accessFlags := 25, nameIndex := 130, descriptorIndex := 124, attributes := #[] }, { accessFlags := 25, nameIndex := 136, descriptorIndex := 124, attributes := #[] }])
  fields := #[{ name := "SIOOBE_FORMATTER", type := (.object "java/util/function/BiFunction"), accessFlags := 25, slot := 0, constantValue := 0 }, { name := "AIOOBE_FORMATTER", type := (.object "java/util/function/BiFunction"), accessFlags := 25, slot := 1, constantValue := 0 }, { name := "IOOBE_FORMATTER", type := (.object "java/util/function/BiFunction"), accessFlags := 25, slot := 2, constantValue := 0 }]
  methods := #[k12m0, k12m1]
  instanceTypes := #[]
  staticTypes := #[(.object "java/util/function/BiFunction"), (.object "java/util/function/BiFunction"), (.object "java/util/function/BiFunction")]
  resolved := Array.replicate 194 none
  statics := some 1 }

def pool13 : Array CpInfo := pool [(1, .class_ 2), (0, u "java/lang/Character"), (18, u "value"), (0, u "C"), (19, .class_ 44), (1, u "java/lang/Object"), (3, .class_ 50), (1, u "java/lang/Character$CharacterCache"), (22, .integer 65536), (100, u "(I)I"), (109, u "$assertionsDisabled"), (0, u "Z"), (21, .class_ 309), (1, u "java/lang/Character$UnicodeBlock"), (73, u "TYPE"), (0, u "Ljava/lang/Class;"), (0, .class_ 386), (0, u "java/io/Serializable"), (0, .class_ 388), (0, u "java/lang/Comparable"), (0, .class_ 390), (0, u "java/lang/constant/Constable"), (0, u "MIN_RADIX"), (0, u "I"), (2, u "MAX_RADIX"), (1, u "MIN_VALUE"), (1, u "MAX_VALUE"), (3, u "UNASSIGNED"), (0, u "B"), (0, u "UPPERCASE_LETTER"), (1, u "LOWERCASE_LETTER"), (0, u "TITLECASE_LETTER"), (1, u "MODIFIER_LETTER"), (1, u "OTHER_LETTER"), (1, u "NON_SPACING_MARK"), (1, u "ENCLOSING_MARK"), (1, u "COMBINING_SPACING_MARK"), (1, u "DECIMAL_DIGIT_NUMBER"), (1, u "LETTER_NUMBER"), (1, u "OTHER_NUMBER"), (1, u "SPACE_SEPARATOR"), (1, u "LINE_SEPARATOR"), (1, u "PARAGRAPH_SEPARATOR"), (1, u "CONTROL"), (1, u "FORMAT"), (1, u "PRIVATE_USE"), (1, u "SURROGATE"), (1, u "DASH_PUNCTUATION"), (1, u "START_PUNCTUATION"), (1, u "END_PUNCTUATION"), (1, u "CONNECTOR_PUNCTUATION"), (1, u "OTHER_PUNCTUATION"), (1, u "MATH_SYMBOL"), (1, u "CURRENCY_SYMBOL"), (1, u "MODIFIER_SYMBOL"), (1, u "OTHER_SYMBOL"), (1, u "INITIAL_QUOTE_PUNCTUATION"), (1, u "FINAL_QUOTE_PUNCTUATION"), (1, u "ERROR"), (1, u "DIRECTIONALITY_UNDEFINED"), (0, u "DIRECTIONALITY_LEFT_TO_RIGHT"), (0, u "DIRECTIONALITY_RIGHT_TO_LEFT"), (0, u "DIRECTIONALITY_RIGHT_TO_LEFT_ARABIC"), (0, u "DIRECTIONALITY_EUROPEAN_NUMBER"), (0, u "DIRECTIONALITY_EUROPEAN_NUMBER_SEPARATOR"), (0, u "DIRECTIONALITY_EUROPEAN_NUMBER_TERMINATOR"), (0, u "DIRECTIONALITY_ARABIC_NUMBER"), (0, u "DIRECTIONALITY_COMMON_NUMBER_SEPARATOR"), (0, u "DIRECTIONALITY_NONSPACING_MARK"), (0, u "DIRECTIONALITY_BOUNDARY_NEUTRAL"), (0, u "DIRECTIONALITY_PARAGRAPH_SEPARATOR"), (0, u "DIRECTIONALITY_SEGMENT_SEPARATOR"), (0, u "DIRECTIONALITY_WHITESPACE"), (0, u "DIRECTIONALITY_OTHER_NEUTRALS"), (0, u "DIRECTIONALITY_LEFT_TO_RIGHT_EMBEDDING"), (0, u "DIRECTIONALITY_LEFT_TO_RIGHT_OVERRIDE"), (0, u "DIRECTIONALITY_RIGHT_TO_LEFT_EMBEDDING"), (0, u "DIRECTIONALITY_RIGHT_TO_LEFT_OVERRIDE"), (1, u "DIRECTIONALITY_POP_DIRECTIONAL_FORMAT"), (0, u "DIRECTIONALITY_LEFT_TO_RIGHT_ISOLATE"), (0, u "DIRECTIONALITY_RIGHT_TO_LEFT_ISOLATE"), (0, u "DIRECTIONALITY_FIRST_STRONG_ISOLATE"), (0, u "DIRECTIONALITY_POP_DIRECTIONAL_ISOLATE"), (0, u "MIN_HIGH_SURROGATE"), (0, u "MAX_HIGH_SURROGATE"), (1, u "MIN_LOW_SURROGATE"), (0, u "MAX_LOW_SURROGATE"), (1, u "MIN_SURROGATE"), (0, u "MAX_SURROGATE"), (0, u "MIN_SUPPLEMENTARY_CODE_POINT"), (0, u "MIN_CODE_POINT"), (0, u "MAX_CODE_POINT"), (1, u "serialVersionUID"), (0, u "J"), (2, u "SIZE"), (0, u "BYTES"), (29, u "charCount"), (58, .class_ 596), (0, u "java/lang/Character$UnicodeScript"), (0, .class_ 598), (0, u "java/lang/Character$Subset")] 5

def k13c0 : Code := { maxStack := 2, maxLocals := 1, code := jdk_89_method_18_code, exceptionTable := #[], attributes := #[] }
def k13m0 : Method := { name := "charCount", desc := "(I)I", sig := { parameters := [.int], returnType := some .int }, accessFlags := 9, code := some k13c0 }
/-- java/lang/Character -/
def k13 : Class := { plain "java/lang/Character" (some 0) with
  accessFlags := 49
  interfaces := #[3, 4, 6]
  cf := some (fileOf pool13 1 #[.nestMembers #[48, 595, 307, 597]] #[{ accessFlags := 9, nameIndex := 536, descriptorIndex := 174, attributes := #[] }] 49 42 #[385, 387, 389] #[{ accessFlags := 25, nameIndex := 391, descriptorIndex := 392, attributes := #[] }, { accessFlags := 25, nameIndex := 395, descriptorIndex := 392, attributes := #[] }, { accessFlags := 25, nameIndex := 397, descriptorIndex := 22, attributes := #[] }, { accessFlags := 25, nameIndex := 399, descriptorIndex := 22, attributes := #[] }, { accessFlags := 25, nameIndex := 383, descriptorIndex := 384, attributes := #[] }, { accessFlags := 25, nameIndex := 403, descriptorIndex := 404, attributes := #[] }, { accessFlags := 25, nameIndex := 405, descriptorIndex := 404, attributes := #[] }, { accessFlags := 25, nameIndex := 407, descriptorIndex := 404, attributes := #[] }, { accessFlags := 25, nameIndex := 408, descriptorIndex := 404, attributes := #[] }, { accessFlags := 25, nameIndex := 410, descriptorIndex := 404, attributes := #[] }, { accessFlags := 25, nameIndex := 412, descriptorIndex := 404, attributes := #[] }, { accessFlags := 25, nameIndex := 414, descriptorIndex := 404, attributes := #[] }, { accessFlags := 25, nameIndex := 416, descriptorIndex := 404, attributes := #[] }, { accessFlags := 25, nameIndex := 418, descriptorIndex := 404, attributes := #[] }, { accessFlags := 25, nameIndex := 420, descriptorIndex := 404, attributes := #[] }, { accessFlags := 25, nameIndex := 422, descriptorIndex := 404, attributes := #[] }, { accessFlags := 25, nameIndex := 424, descriptorIndex := 404, attributes := #[] }, { accessFlags := 25, nameIndex := 426, descriptorIndex := 404, attributes := #[] }, { accessFlags := 25, nameIndex := 428, descriptorIndex := 404, attributes := #[] }, { accessFlags := 25, nameIndex := 430, descriptorIndex := 404, attributes := #[] }, { accessFlags := 25, nameIndex := 432, descriptorIndex := 404, attributes := #[] }, { accessFlags := 25, nameIndex := 434, descriptorIndex := 404, attributes := #[] }, { accessFlags := 25, nameIndex := 436, descriptorIndex := 404, attributes := #[] }, { accessFlags := 25, nameIndex := 438, descriptorIndex := 404, attributes := #[] }, { accessFlags := 25, nameIndex := 440, descriptorIndex := 404, attributes := #[] }, { accessFlags := 25, nameIndex := 442, descriptorIndex := 404, attributes := #[] }, { accessFlags := 25, nameIndex := 444, descriptorIndex := 404, attributes := #[] }, { accessFlags := 25, nameIndex := 446, descriptorIndex := 404, attributes := #[] }, { accessFlags := 25, nameIndex := 448, descriptorIndex := 404, attributes := #[] }, { accessFlags := 25, nameIndex := 450, descriptorIndex := 404, attributes := #[] }, { accessFlags := 25, nameIndex := 452, descriptorIndex := 404, attributes := #[] }, { accessFlags := 25, nameIndex := 454, descriptorIndex := 404, attributes := #[] }, { accessFlags := 25, nameIndex := 456, descriptorIndex := 404, attributes := #[] }, { accessFlags := 25, nameIndex := 458, descriptorIndex := 404, attributes := #[] }, { accessFlags := 25, nameIndex := 460, descriptorIndex := 404, attributes := #[] }, { accessFlags := 24, nameIndex := 462, descriptorIndex := 392, attributes := #[] }, { accessFlags := 25, nameIndex := 464, descriptorIndex := 404, attributes := #[] }, { accessFlags := 25, nameIndex := 465, descriptorIndex := 404, attributes := #[] }, { accessFlags := 25, nameIndex := 466, descriptorIndex := 404, attributes := #[] }, { accessFlags := 25, nameIndex := 467, descriptorIndex := 404, attributes := #[] }, { accessFlags := 25, nameIndex := 468, descriptorIndex := 404, attributes := #[] }, { accessFlags := 25, nameIndex := 469, descriptorIndex := 404, attributes := #[] }, { accessFlags := 25, nameIndex := 470, descriptorIndex := 404, attributes := #[] }, { accessFlags := 25, nameIndex := 471, descriptorIndex := 404, attributes := #[] }, { accessFlags := 25, nameIndex := 472, descriptorIndex := 404, attributes := #[] }, { accessFlags := 25, nameIndex := 473, descriptorIndex := 404, attributes := #[] }, { accessFlags := 25, nameIndex := 474, descriptorIndex := 404, attributes := #[] }, { accessFlags := 25, nameIndex := 475, descriptorIndex := 404, attributes := #[] }, { accessFlags := 25, nameIndex := 476, descriptorIndex := 404, attributes := #[] }, { accessFlags := 25, nameIndex := 477, descriptorIndex := 404, attributes := #[] }, { accessFlags := 25, nameIndex := 478, descriptorIndex := 404, attributes := #[] }, { accessFlags := 25, nameIndex := 479, descriptorIndex := 404, attributes := #[] }, { accessFlags := 25, nameIndex := 480, descriptorIndex := 404, attributes := #[] }, { accessFlags := 25, nameIndex := 481, descriptorIndex := 404, attributes := #[] }, { accessFlags := 25, nameIndex := 482, descriptorIndex := 404, attributes := #[] }, { accessFlags := 25, nameIndex := 484, descriptorIndex := 404, attributes := #[] }, { accessFlags := 25, nameIndex := 485, descriptorIndex := 404, attributes := #[] }, { accessFlags := 25, nameIndex := 486, descriptorIndex := 404, attributes := #[] }, { accessFlags := 25, nameIndex := 487, descriptorIndex := 404, attributes := #[] }, { accessFlags := 25, nameIndex := 488, descriptorIndex := 404, attributes := #[] }, { accessFlags := 25, nameIndex := 489, descriptorIndex := 22, attributes := #[] }, { accessFlags := 25, nameIndex := 490, descriptorIndex := 22, attributes := #[] }, { accessFlags := 25, nameIndex := 492, descriptorIndex := 22, attributes := #[] }, { accessFlags := 25, nameIndex := 493, descriptorIndex := 22, attributes := #[] }, { accessFlags := 25, nameIndex := 495, descriptorIndex := 22, attributes := #[] }, { accessFlags := 25, nameIndex := 496, descriptorIndex := 22, attributes := #[] }, { accessFlags := 25, nameIndex := 497, descriptorIndex := 392, attributes := #[] }, { accessFlags := 25, nameIndex := 498, descriptorIndex := 392, attributes := #[] }, { accessFlags := 25, nameIndex := 499, descriptorIndex := 392, attributes := #[] }, { accessFlags := 18, nameIndex := 21, descriptorIndex := 22, attributes := #[] }, { accessFlags := 26, nameIndex := 501, descriptorIndex := 502, attributes := #[] }, { accessFlags := 25, nameIndex := 505, descriptorIndex := 392, attributes := #[] }, { accessFlags := 25, nameIndex := 506, descriptorIndex := 392, attributes := #[] }, { accessFlags := 4120, nameIndex := 284, descriptorIndex := 285, attributes := #[] }])
  fields := #[{ name := "MIN_RADIX", type := .int, accessFlags := 25, slot := 0, constantValue := 0 }, { name := "MAX_RADIX", type := .int, accessFlags := 25, slot := 1, constantValue := 0 }, { name := "MIN_VALUE", type := .char, accessFlags := 25, slot := 2, constantValue := 0 }, { name := "MAX_VALUE", type := .char, accessFlags := 25, slot := 3, constantValue := 0 }, { name := "TYPE", type := (.object "java/lang/Class"), accessFlags := 25, slot := 4, constantValue := 0 }, { name := "UNASSIGNED", type := .byte, accessFlags := 25, slot := 5, constantValue := 0 }, { name := "UPPERCASE_LETTER", type := .byte, accessFlags := 25, slot := 6, constantValue := 0 }, { name := "LOWERCASE_LETTER", type := .byte, accessFlags := 25, slot := 7, constantValue := 0 }, { name := "TITLECASE_LETTER", type := .byte, accessFlags := 25, slot := 8, constantValue := 0 }, { name := "MODIFIER_LETTER", type := .byte, accessFlags := 25, slot := 9, constantValue := 0 }, { name := "OTHER_LETTER", type := .byte, accessFlags := 25, slot := 10, constantValue := 0 }, { name := "NON_SPACING_MARK", type := .byte, accessFlags := 25, slot := 11, constantValue := 0 }, { name := "ENCLOSING_MARK", type := .byte, accessFlags := 25, slot := 12, constantValue := 0 }, { name := "COMBINING_SPACING_MARK", type := .byte, accessFlags := 25, slot := 13, constantValue := 0 }, { name := "DECIMAL_DIGIT_NUMBER", type := .byte, accessFlags := 25, slot := 14, constantValue := 0 }, { name := "LETTER_NUMBER", type := .byte, accessFlags := 25, slot := 15, constantValue := 0 }, { name := "OTHER_NUMBER", type := .byte, accessFlags := 25, slot := 16, constantValue := 0 }, { name := "SPACE_SEPARATOR", type := .byte, accessFlags := 25, slot := 17, constantValue := 0 }, { name := "LINE_SEPARATOR", type := .byte, accessFlags := 25, slot := 18, constantValue := 0 }, { name := "PARAGRAPH_SEPARATOR", type := .byte, accessFlags := 25, slot := 19, constantValue := 0 }, { name := "CONTROL", type := .byte, accessFlags := 25, slot := 20, constantValue := 0 }, { name := "FORMAT", type := .byte, accessFlags := 25, slot := 21, constantValue := 0 }, { name := "PRIVATE_USE", type := .byte, accessFlags := 25, slot := 22, constantValue := 0 }, { name := "SURROGATE", type := .byte, accessFlags := 25, slot := 23, constantValue := 0 }, { name := "DASH_PUNCTUATION", type := .byte, accessFlags := 25, slot := 24, constantValue := 0 }, { name := "START_PUNCTUATION", type := .byte, accessFlags := 25, slot := 25, constantValue := 0 }, { name := "END_PUNCTUATION", type := .byte, accessFlags := 25, slot := 26, constantValue := 0 }, { name := "CONNECTOR_PUNCTUATION", type := .byte, accessFlags := 25, slot := 27, constantValue := 0 }, { name := "OTHER_PUNCTUATION", type := .byte, accessFlags := 25, slot := 28, constantValue := 0 }, { name := "MATH_SYMBOL", type := .byte, accessFlags := 25, slot := 29, constantValue := 0 }, { name := "CURRENCY_SYMBOL", type := .byte, accessFlags := 25, slot := 30, constantValue := 0 }, { name := "MODIFIER_SYMBOL", type := .byte, accessFlags := 25, slot := 31, constantValue := 0 }, { name := "OTHER_SYMBOL", type := .byte, accessFlags := 25, slot := 32, constantValue := 0 }, { name := "INITIAL_QUOTE_PUNCTUATION", type := .byte, accessFlags := 25, slot := 33, constantValue := 0 }, { name := "FINAL_QUOTE_PUNCTUATION", type := .byte, accessFlags := 25, slot := 34, constantValue := 0 }, { name := "ERROR", type := .int, accessFlags := 24, slot := 35, constantValue := 0 }, { name := "DIRECTIONALITY_UNDEFINED", type := .byte, accessFlags := 25, slot := 36, constantValue := 0 }, { name := "DIRECTIONALITY_LEFT_TO_RIGHT", type := .byte, accessFlags := 25, slot := 37, constantValue := 0 }, { name := "DIRECTIONALITY_RIGHT_TO_LEFT", type := .byte, accessFlags := 25, slot := 38, constantValue := 0 }, { name := "DIRECTIONALITY_RIGHT_TO_LEFT_ARABIC", type := .byte, accessFlags := 25, slot := 39, constantValue := 0 }, { name := "DIRECTIONALITY_EUROPEAN_NUMBER", type := .byte, accessFlags := 25, slot := 40, constantValue := 0 }, { name := "DIRECTIONALITY_EUROPEAN_NUMBER_SEPARATOR", type := .byte, accessFlags := 25, slot := 41, constantValue := 0 }, { name := "DIRECTIONALITY_EUROPEAN_NUMBER_TERMINATOR", type := .byte, accessFlags := 25, slot := 42, constantValue := 0 }, { name := "DIRECTIONALITY_ARABIC_NUMBER", type := .byte, accessFlags := 25, slot := 43, constantValue := 0 }, { name := "DIRECTIONALITY_COMMON_NUMBER_SEPARATOR", type := .byte, accessFlags := 25, slot := 44, constantValue := 0 }, { name := "DIRECTIONALITY_NONSPACING_MARK", type := .byte, accessFlags := 25, slot := 45, constantValue := 0 }, { name := "DIRECTIONALITY_BOUNDARY_NEUTRAL", type := .byte, accessFlags := 25, slot := 46, constantValue := 0 }, { name := "DIRECTIONALITY_PARAGRAPH_SEPARATOR", type := .byte, accessFlags := 25, slot := 47, constantValue := 0 }, { name := "DIRECTIONALITY_SEGMENT_SEPARATOR", type := .byte, accessFlags := 25, slot := 48, constantValue := 0 }, { name := "DIRECTIONALITY_WHITESPACE", type := .byte, accessFlags := 25, slot := 49, constantValue := 0 }, { name := "DIRECTIONALITY_OTHER_NEUTRALS", type := .byte, accessFlags := 25, slot := 50, constantValue := 0 }, { name := "DIRECTIONALITY_LEFT_TO_RIGHT_EMBEDDING", type := .byte, accessFlags := 25, slot := 51, constantValue := 0 }, { name := "DIRECTIONALITY_LEFT_TO_RIGHT_OVERRIDE", type := .byte, accessFlags := 25, slot := 52, constantValue := 0 }, { name := "DIRECTIONALITY_RIGHT_TO_LEFT_EMBEDDING", type := .byte, accessFlags := 25, slot := 53, constantValue := 0 }, { name := "DIRECTIONALITY_RIGHT_TO_LEFT_OVERRIDE", type := .byte, accessFlags := 25, slot := 54, constantValue := 0 }, { name := "DIRECTIONALITY_POP_DIRECTIONAL_FORMAT", type := .byte, accessFlags := 25, slot := 55, constantValue := 0 }, { name := "DIRECTIONALITY_LEFT_TO_RIGHT_ISOLATE", type := .byte, accessFlags := 25, slot := 56, constantValue := 0 }, { name := "DIRECTIONALITY_RIGHT_TO_LEFT_ISOLATE", type := .byte, accessFlags := 25, slot := 57, constantValue := 0 }, { name := "DIRECTIONALITY_FIRST_STRONG_ISOLATE", type := .byte, accessFlags := 25, slot := 58, constantValue := 0 }, { name := "DIRECTIONALITY_POP_DIRECTIONAL_ISOLATE", type := .byte, accessFlags := 25, slot := 59, constantValue := 0 }, { name := "MIN_HIGH_SURROGATE", type := .char, accessFlags := 25, slot := 60, constantValue := 0 }, { name := "MAX_HIGH_SURROGATE", type := .char, accessFlags := 25, slot := 61, constantValue := 0 }, { name := "MIN_LOW_SURROGATE", type := .char, accessFlags := 25, slot := 62, constantValue := 0 }, { name := "MAX_LOW_SURROGATE", type := .char, accessFlags := 25, slot := 63, constantValue := 0 }, { name := "MIN_SURROGATE", type := .char, accessFlags := 25, slot := 64, constantValue := 0 }, { name := "MAX_SURROGATE", type := .char, accessFlags := 25, slot := 65, constantValue := 0 }, { name := "MIN_SUPPLEMENTARY_CODE_POINT", type := .int, accessFlags := 25, slot := 66, constantValue := 0 }, { name := "MIN_CODE_POINT", type := .int, accessFlags := 25, slot := 67, constantValue := 0 }, { name := "MAX_CODE_POINT", type := .int, accessFlags := 25, slot := 68, constantValue := 0 }, { name := "value", type := .char, accessFlags := 18, slot := 0, constantValue := 0 }, { name := "serialVersionUID", type := .long, accessFlags := 26, slot := 69, constantValue := 0 }, { name := "SIZE", type := .int, accessFlags := 25, slot := 70, constantValue := 0 }, { name := "BYTES", type := .int, accessFlags := 25, slot := 71, constantValue := 0 }, { name := "$assertionsDisabled", type := .boolean, accessFlags := 4120, slot := 72, constantValue := 0 }]
  methods := #[k13m0]
  instanceTypes := #[.char]
  staticTypes := #[.int, .int, .char, .char, (.object "java/lang/Class"), .byte, .byte, .byte, .byte, .byte, .byte, .byte, .byte, .byte, .byte, .byte, .byte, .byte, .byte, .byte, .byte, .byte, .byte, .byte, .byte, .byte, .byte, .byte, .byte, .byte, .byte, .byte, .byte, .byte, .byte, .int, .byte, .byte, .byte, .byte, .byte, .byte, .byte, .byte, .byte, .byte, .byte, .byte, .byte, .byte, .byte, .byte, .byte, .byte, .byte, .byte, .byte, .byte, .byte, .byte, .char, .char, .char, .char, .char, .char, .int, .int, .int, .long, .int, .int, .boolean]
  resolved := Array.replicate 604 none
  statics := none }

def pool14 : Array CpInfo := pool [(4, .class_ 6), (1, u "java/lang/Object"), (0, u "<init>"), (0, u "()V"), (5, .class_ 16), (1, u "java/lang/StringLatin1"), (104, u "$assertionsDisabled"), (0, u "Z"), (98, .class_ 223), (1, u "java/lang/StringLatin1$LinesSpliterator"), (57, u "equals"), (0, u "([B[B)Z"), (107, .class_ 391), (0, u "java/lang/StringLatin1$CharsSpliterator")] 3

def k14m0 : Method := { name := "<init>", desc := "()V", sig := { parameters := [], returnType := none }, accessFlags := 0, code := none }
def k14c1 : Code := { maxStack := 3, maxLocals := 3, code := jdk_43_method_13_code, exceptionTable := #[], attributes := #[] }
def k14m1 : Method := { name := "equals", desc := "([B[B)Z", sig := { parameters := [(.array .byte), (.array .byte)], returnType := some .boolean }, accessFlags := 9, code := some k14c1 }
/-- java/lang/StringLatin1 -/
def k14 : Class := { plain "java/lang/StringLatin1" (some 0) with
  accessFlags := 48
  interfaces := #[]
  cf := some (fileOf pool14 14 #[.nestMembers #[390, 221]] #[{ accessFlags := 0, nameIndex := 7, descriptorIndex := 8, attributes := #[] }, { accessFlags := 9, nameIndex := 281, descriptorIndex := 282, attributes := #[] }] 48 4 #[] #[{ accessFlags := 4120, nameIndex := 121, descriptorIndex := 122, attributes := #[] }])
  fields := #[{ name := "$assertionsDisabled", type := .boolean, accessFlags := 4120, slot := 0, constantValue := 0 }]
  methods := #[k14m0, k14m1]
  instanceTypes := #[]
  staticTypes := #[.boolean]
  resolved := Array.replicate 395 none
  statics := none }

def pool15 : Array CpInfo := pool [(9, u "<init>"), (6, .class_ 18), (1, u "java/lang/Object"), (0, u "()V"), (1, .class_ 23), (1, u "jdk/internal/util/ArraysSupport"), (0, u "LOG2_ARRAY_LONG_INDEX_SCALE"), (0, u "I"), (2, u "U"), (0, u "Ljdk/internal/misc/Unsafe;"), (8, u "BIG_ENDIAN"), (0, u "Z"), (8, u "LOG2_BYTE_BIT_SIZE"), (4, u "LOG2_ARRAY_INT_INDEX_SCALE"), (54, u "JLA"), (0, u "Ljdk/internal/access/JavaLangAccess;"), (11, u "LOG2_ARRAY_BOOLEAN_INDEX_SCALE"), (9, u "LOG2_ARRAY_BYTE_INDEX_SCALE"), (5, u "LOG2_ARRAY_CHAR_INDEX_SCALE"), (5, u "LOG2_ARRAY_SHORT_INDEX_SCALE"), (18, u "LOG2_ARRAY_FLOAT_INDEX_SCALE"), (24, u "LOG2_ARRAY_DOUBLE_INDEX_SCALE"), (89, u "T_BOOLEAN"), (2, u "T_CHAR"), (1, u "T_FLOAT"), (1, u "T_DOUBLE"), (1, u "T_BYTE"), (1, u "T_SHORT"), (1, u "T_INT"), (1, u "T_LONG"), (1, u "SOFT_MAX_ARRAY_LENGTH")] 83

def k15m0 : Method := { name := "<init>", desc := "()V", sig := { parameters := [], returnType := none }, accessFlags := 2, code := none }
/-- jdk/internal/util/ArraysSupport -/
def k15 : Class := { plain "jdk/internal/util/ArraysSupport" (some 0) with
  accessFlags := 33
  interfaces := #[]
  cf := some (fileOf pool15 21 #[] #[{ accessFlags := 2, nameIndex := 9, descriptorIndex := 19, attributes := #[] }] 33 16 #[] #[{ accessFlags := 24, nameIndex := 28, descriptorIndex := 29, attributes := #[] }, { accessFlags := 26, nameIndex := 38, descriptorIndex := 39, attributes := #[] }, { accessFlags := 25, nameIndex := 121, descriptorIndex := 25, attributes := #[] }, { accessFlags := 25, nameIndex := 131, descriptorIndex := 25, attributes := #[] }, { accessFlags := 25, nameIndex := 137, descriptorIndex := 25, attributes := #[] }, { accessFlags := 25, nameIndex := 143, descriptorIndex := 25, attributes := #[] }, { accessFlags := 25, nameIndex := 53, descriptorIndex := 25, attributes := #[] }, { accessFlags := 25, nameIndex := 24, descriptorIndex := 25, attributes := #[] }, { accessFlags := 25, nameIndex := 162, descriptorIndex := 25, attributes := #[] }, { accessFlags := 25, nameIndex := 187, descriptorIndex := 25, attributes := #[] }, { accessFlags := 26, nameIndex := 48, descriptorIndex := 25, attributes := #[] }, { accessFlags := 25, nameIndex := 277, descriptorIndex := 25, attributes := #[] }, { accessFlags := 25, nameIndex := 280, descriptorIndex := 25, attributes := #[] }, { accessFlags := 25, nameIndex := 282, descriptorIndex := 25, attributes := #[] }, { accessFlags := 25, nameIndex := 284, descriptorIndex := 25, attributes := #[] }, { accessFlags := 25, nameIndex := 286, descriptorIndex := 25, attributes := #[] }, { accessFlags := 25, nameIndex := 288, descriptorIndex := 25, attributes := #[] }, { accessFlags := 25, nameIndex := 290, descriptorIndex := 25, attributes := #[] }, { accessFlags := 25, nameIndex := 292, descriptorIndex := 25, attributes := #[] }, { accessFlags := 26, nameIndex := 108, descriptorIndex := 109, attributes := #[] }, { accessFlags := 25, nameIndex := 294, descriptorIndex := 25, attributes := #[] }])
  fields := #[{ name := "U", type := (.object "jdk/internal/misc/Unsafe"), accessFlags := 24, slot := 0, constantValue := 0 }, { name := "BIG_ENDIAN", type := .boolean, accessFlags := 26, slot := 1, constantValue := 0 }, { name := "LOG2_ARRAY_BOOLEAN_INDEX_SCALE", type := .int, accessFlags := 25, slot := 2, constantValue := 0 }, { name := "LOG2_ARRAY_BYTE_INDEX_SCALE", type := .int, accessFlags := 25, slot := 3, constantValue := 0 }, { name := "LOG2_ARRAY_CHAR_INDEX_SCALE", type := .int, accessFlags := 25, slot := 4, constantValue := 0 }, { name := "LOG2_ARRAY_SHORT_INDEX_SCALE", type := .int, accessFlags := 25, slot := 5, constantValue := 0 }, { name := "LOG2_ARRAY_INT_INDEX_SCALE", type := .int, accessFlags := 25, slot := 6, constantValue := 0 }, { name := "LOG2_ARRAY_LONG_INDEX_SCALE", type := .int, accessFlags := 25, slot := 7, constantValue := 0 }, { name := "LOG2_ARRAY_FLOAT_INDEX_SCALE", type := .int, accessFlags := 25, slot := 8, constantValue := 0 }, { name := "LOG2_ARRAY_DOUBLE_INDEX_SCALE", type := .int, accessFlags := 25, slot := 9, constantValue := 0 }, { name := "LOG2_BYTE_BIT_SIZE", type := .int, accessFlags := 26, slot := 10, constantValue := 0 }, { name := "T_BOOLEAN", type := .int, accessFlags := 25, slot := 11, constantValue := 0 }, { name := "T_CHAR", type := .int, accessFlags := 25, slot := 12, constantValue := 0 }, { name := "T_FLOAT", type := .int, accessFlags := 25, slot := 13, constantValue := 0 }, { name := "T_DOUBLE", type := .int, accessFlags := 25, slot := 14, constantValue := 0 }, { name := "T_BYTE", type := .int, accessFlags := 25, slot := 15, constantValue := 0 }, { name := "T_SHORT", type := .int, accessFlags := 25, slot := 16, constantValue := 0 }, { name := "T_INT", type := .int, accessFlags := 25, slot := 17, constantValue := 0 }, { name := "T_LONG", type := .int, accessFlags := 25, slot := 18, constantValue := 0 }, { name := "JLA", type := (.object "jdk/internal/access/JavaLangAccess"), accessFlags := 26, slot := 19, constantValue := 0 }, { name := "SOFT_MAX_ARRAY_LENGTH", type := .int, accessFlags := 25, slot := 20, constantValue := 0 }]
  methods := #[k15m0]
  instanceTypes := #[]
  staticTypes := #[(.object "jdk/internal/misc/Unsafe"), .boolean, .int, .int, .int, .int, .int, .int, .int, .int, .int, .int, .int, .int, .int, .int, .int, .int, .int, (.object "jdk/internal/access/JavaLangAccess"), .int]
  resolved := Array.replicate 378 none
  statics := none }

def pool16 : Array CpInfo := pool [(1, u "java/lang/Cloneable"), (0, .class_ 1), (0, u "java/lang/Object"), (0, .class_ 3)] 3

/-- java/lang/Cloneable -/
def k16 : Class := { plain "java/lang/Cloneable" (some 0) with
  accessFlags := 1537
  interfaces := #[]
  cf := some (fileOf pool16 2 #[] #[] 1537 4 #[] #[])
  fields := #[]
  methods := #[]
  instanceTypes := #[]
  staticTypes := #[]
  resolved := Array.replicate 8 none
  statics := none }

/-- the primitive byte -/
def k17 : Class := { plain "byte" none with kind := .primitive 'B', accessFlags := 0x411 }
/-- [B -/
def k18 : Class := { plain "[B" (some 0) with kind := .array 17 .byte, interfaces := #[16, 3], accessFlags := 1041 }

/-- the primitive char -/
def k19 : Class := { plain "char" none with kind := .primitive 'C', accessFlags := 0x411 }
/-- [C -/
def k20 : Class := { plain "[C" (some 0) with kind := .array 19 .char, interfaces := #[16, 3], accessFlags := 1041 }

/-- the primitive int -/
def k21 : Class := { plain "int" none with kind := .primitive 'I', accessFlags := 0x411 }
/-- [I -/
def k22 : Class := { plain "[I" (some 0) with kind := .array 21 .int, interfaces := #[16, 3], accessFlags := 1041 }

def heap : Heap := #[{ cls := 8, slots := #[.long 0, .int 1, .null, .int 0, .null, .int 0, .int 0], vm := .statics 8 },
  { cls := 12, slots := #[.null, .null, .null], vm := .statics 12 }]
def classes : Array Class := #[k0, k1, k2, k3, k4, k5, k6, k7, k8, k9, k10, k11, k12, k13, k14, k15, k16, k17, k18, k19, k20, k21, k22]
def interned : List (Array UInt16 × Addr) := []
def slotsUsed : Nat := 10
def theMethod : MethodId := ⟨1, 1⟩
def args0 : Array Value := #[.long 5, .long 6, .int 7, .int 8, .int 9, .int 10]
def aboutOver (below : List Frame) : State where
  vm := { classes := classes, interned := interned.toArray }
  heap := heap
  slotsUsed := slotsUsed
  threads := #[{ frames := .invoking theMethod args0 :: below }]
def below0 : List Frame := [.native { method := ⟨0, 0⟩, args := #[] }]
def about1 : State := aboutOver below0
def p0 : Program := .bare "" "" ""
def e0 : Env := launch0.env 0 0 0
theorem w_frames : about1.frames = Frame.invoking theMethod args0 :: below0 := rfl
set_option maxRecDepth 65536 in
theorem w_args : argsFit about1.vm theMethod args0 = true := by decide +kernel
set_option maxRecDepth 65536 in
theorem w_heap : heapFits about1 = true := by decide +kernel
set_option maxRecDepth 65536 in
theorem w_runnable : about1.curStatus? = some .runnable := by decide +kernel
set_option maxRecDepth 65536 in
theorem w_alone : about1.alone = true := by decide +kernel
set_option maxRecDepth 65536 in
theorem w_named : about1.methodNamed? x = some theMethod := by decide +kernel
set_option maxRecDepth 65536 in
theorem w_hears : about1.hears theMethod below0 = true := by decide +kernel
set_option maxRecDepth 65536 in
theorem w_ripe : about1.ripe theMethod args0 below0 = true := by decide +kernel
theorem w_running : about1.status = .running := rfl
set_option maxRecDepth 65536 in
theorem w_room : about1.hasRoom e0.platform room_1 = true :=
  launch0.hasRoom_least _ room_1 (by decide +kernel) (by decide +kernel) (by decide +kernel) (by decide +kernel) (by decide +kernel) (by decide +kernel)
theorem allAtoms_all (ts : List Jvm.Cond) (a : Array Jvm.Value) (st : Jvm.State) : (allAtoms ts).before a st = ts.all (fun c => c.before a st) := by
  induction ts with
  | nil => rfl
  | cons c t ih =>
    show (Jvm.Cond.and c (allAtoms t)).before a st = _
    rw [Jvm.Cond.before_and, ih, List.all_cons]
def words1 : List Jvm.Cond := Jvm.Cond.code x code maxLocals ret :: tables_1
/-- a 'code' word, met by the world's own term for the bytes: nothing is compared byte by byte -/
theorem code_word {y : MethodName} {bytes : ByteArray} {mx : Nat} {rt : Option FieldType} {a : Array Value} {s : State} {m : MethodId} {meth : Method} {c : Code} (h1 : s.methodNamed? y = some m) (h2 : s.vm.method? m = some meth) (h3 : meth.code = some c) (h4 : c.code = bytes)
    (h5 : (c.maxLocals == mx && c.exceptionTable.isEmpty && decide (c.maxStack ≤ mostOperands) && decide (meth.sig.returnType = rt) && !meth.locks && decide (parseMethodDescriptor y.desc = some meth.sig)) = true) : (Jvm.Cond.code y bytes mx rt).before a s = true := by
  simp only [Bool.and_eq_true, beq_iff_eq, Bool.not_eq_true', decide_eq_true_eq] at h5
  obtain ⟨⟨⟨⟨⟨g1, g2⟩, g3⟩, g4⟩, g5⟩, g6⟩ := h5
  simp [Cond.before, Cond.holds, Cond.value, h1, h2, h3, h4, g1, g2, g3, g4, g5, g6]
def isCode : Jvm.Cond → Bool
  | .code _ _ _ _ => true
  | _ => false
theorem all_split {L : List Jvm.Cond} {P : Jvm.Cond → Bool} (h1 : L.all (fun c => isCode c || P c) = true) (h2 : ∀ c ∈ L.filter isCode, P c = true) : L.all P = true := by
  refine List.all_eq_true.mpr fun c hc => ?_
  have h := List.all_eq_true.mp h1 c hc
  rcases Bool.eq_false_or_eq_true (isCode c) with hi | hi
  · exact h2 c (List.mem_filter.mpr ⟨hc, hi⟩)
  · simpa [hi] using h
set_option maxRecDepth 65536 in
theorem w_c0 : (Jvm.Cond.code x code maxLocals ret).before args0 about1 = true := code_word (m := ⟨1, 1⟩) (meth := k1m1) (c := k1c1) (by decide +kernel) rfl rfl rfl (by decide +kernel)
set_option maxRecDepth 65536 in
theorem w_c1 : (Jvm.Cond.code ({ cls := "java/lang/Math", name := "max", desc := "(JJ)J" } : Jvm.MethodName) jdk_29_method_66_code (4 : Nat) (Option.some Jvm.ClassFile.FieldType.long)).before args0 about1 = true := code_word (m := ⟨2, 1⟩) (meth := k2m1) (c := k2c1) (by decide +kernel) rfl rfl rfl (by decide +kernel)
set_option maxRecDepth 65536 in
theorem w_c2 : (Jvm.Cond.code ({ cls := "com/example/minho/minho/core/VersionedValueEqualsPinLaw", name := "mk", desc := "(II)Ljava/lang/String;" } : Jvm.MethodName) method_4_code (2 : Nat) (Option.some (Jvm.ClassFile.FieldType.object "java/lang/String"))).before args0 about1 = true := code_word (m := ⟨1, 3⟩) (meth := k1m3) (c := k1c3) (by decide +kernel) rfl rfl rfl (by decide +kernel)
set_option maxRecDepth 65536 in
theorem w_c3 : (Jvm.Cond.code ({ cls := "com/example/minho/minho/core/VersionedValueEqualsPinLaw", name := "ch", desc := "(II)C" } : Jvm.MethodName) method_3_code (2 : Nat) (Option.some Jvm.ClassFile.FieldType.char)).before args0 about1 = true := code_word (m := ⟨1, 2⟩) (meth := k1m2) (c := k1c2) (by decide +kernel) rfl rfl rfl (by decide +kernel)
set_option maxRecDepth 65536 in
theorem w_c4 : (Jvm.Cond.code ({ cls := "java/lang/String", name := "<init>", desc := "([C)V" } : Jvm.MethodName) jdk_42_method_3_code (2 : Nat) (Option.none : Option Jvm.ClassFile.FieldType)).before args0 about1 = true := code_word (m := ⟨8, 1⟩) (meth := k8m1) (c := k8c1) (by decide +kernel) rfl rfl rfl (by decide +kernel)
set_option maxRecDepth 65536 in
theorem w_c5 : (Jvm.Cond.code ({ cls := "java/lang/String", name := "<init>", desc := "([CIILjava/lang/Void;)V" } : Jvm.MethodName) jdk_42_method_149_code (6 : Nat) (Option.none : Option Jvm.ClassFile.FieldType)).before args0 about1 = true := code_word (m := ⟨8, 5⟩) (meth := k8m5) (c := k8c5) (by decide +kernel) rfl rfl rfl (by decide +kernel)
set_option maxRecDepth 65536 in
theorem w_c6 : (Jvm.Cond.code ({ cls := "java/lang/Object", name := "<init>", desc := "()V" } : Jvm.MethodName) object_method_1_code (1 : Nat) (Option.none : Option Jvm.ClassFile.FieldType)).before args0 about1 = true := code_word (m := ⟨0, 0⟩) (meth := k0m0) (c := k0c0) (by decide +kernel) rfl rfl rfl (by decide +kernel)
set_option maxRecDepth 65536 in
theorem w_c7 : (Jvm.Cond.code ({ cls := "java/lang/StringUTF16", name := "compress", desc := "([CII)[B" } : Jvm.MethodName) jdk_52_method_16_code (6 : Nat) (Option.some (Jvm.ClassFile.FieldType.array Jvm.ClassFile.FieldType.byte))).before args0 about1 = true := code_word (m := ⟨9, 2⟩) (meth := k9m2) (c := k9c2) (by decide +kernel) rfl rfl rfl (by decide +kernel)
set_option maxRecDepth 65536 in
theorem w_c8 : (Jvm.Cond.code ({ cls := "java/lang/StringUTF16", name := "compress", desc := "([CI[BII)I" } : Jvm.MethodName) jdk_52_method_21_code (7 : Nat) (Option.some Jvm.ClassFile.FieldType.int)).before args0 about1 = true := code_word (m := ⟨9, 3⟩) (meth := k9m3) (c := k9c3) (by decide +kernel) rfl rfl rfl (by decide +kernel)
set_option maxRecDepth 65536 in
theorem w_c9 : (Jvm.Cond.code ({ cls := "java/lang/StringUTF16", name := "coderFromArrayLen", desc := "([BI)B" } : Jvm.MethodName) jdk_52_method_15_code (2 : Nat) (Option.some Jvm.ClassFile.FieldType.byte)).before args0 about1 = true := code_word (m := ⟨9, 1⟩) (meth := k9m1) (c := k9c1) (by decide +kernel) rfl rfl rfl (by decide +kernel)
set_option maxRecDepth 65536 in
theorem w_c10 : (Jvm.Cond.code ({ cls := "com/example/minho/minho/core/VersionedValue", name := "<init>", desc := "(Ljava/lang/String;J)V" } : Jvm.MethodName) prog_44_method_1_code (4 : Nat) (Option.none : Option Jvm.ClassFile.FieldType)).before args0 about1 = true := code_word (m := ⟨10, 0⟩) (meth := k10m0) (c := k10c0) (by decide +kernel) rfl rfl rfl (by decide +kernel)
set_option maxRecDepth 65536 in
theorem w_c11 : (Jvm.Cond.code ({ cls := "com/example/minho/minho/core/Limits", name := "requireValue", desc := "(Ljava/lang/String;)Ljava/lang/String;" } : Jvm.MethodName) prog_23_method_5_code (1 : Nat) (Option.some (Jvm.ClassFile.FieldType.object "java/lang/String"))).before args0 about1 = true := code_word (m := ⟨11, 1⟩) (meth := k11m1) (c := k11c1) (by decide +kernel) rfl rfl rfl (by decide +kernel)
set_option maxRecDepth 65536 in
theorem w_c12 : (Jvm.Cond.code ({ cls := "com/example/minho/minho/core/Limits", name := "isUtf8Within", desc := "(Ljava/lang/String;IZ)Z" } : Jvm.MethodName) prog_23_method_9_code (6 : Nat) (Option.some Jvm.ClassFile.FieldType.boolean)).before args0 about1 = true := code_word (m := ⟨11, 2⟩) (meth := k11m2) (c := k11c2) (by decide +kernel) rfl rfl rfl (by decide +kernel)
set_option maxRecDepth 65536 in
theorem w_c13 : (Jvm.Cond.code ({ cls := "java/lang/String", name := "length", desc := "()I" } : Jvm.MethodName) jdk_42_method_54_code (1 : Nat) (Option.some Jvm.ClassFile.FieldType.int)).before args0 about1 = true := code_word (m := ⟨8, 2⟩) (meth := k8m2) (c := k8c2) (by decide +kernel) rfl rfl rfl (by decide +kernel)
set_option maxRecDepth 65536 in
theorem w_c14 : (Jvm.Cond.code ({ cls := "java/lang/String", name := "coder", desc := "()B" } : Jvm.MethodName) jdk_42_method_152_code (1 : Nat) (Option.some Jvm.ClassFile.FieldType.byte)).before args0 about1 = true := code_word (m := ⟨8, 6⟩) (meth := k8m6) (c := k8c6) (by decide +kernel) rfl rfl rfl (by decide +kernel)
set_option maxRecDepth 65536 in
theorem w_c15 : (Jvm.Cond.code ({ cls := "java/lang/String", name := "codePointAt", desc := "(I)I" } : Jvm.MethodName) jdk_42_method_57_code (3 : Nat) (Option.some Jvm.ClassFile.FieldType.int)).before args0 about1 = true := code_word (m := ⟨8, 3⟩) (meth := k8m3) (c := k8c3) (by decide +kernel) rfl rfl rfl (by decide +kernel)
set_option maxRecDepth 65536 in
theorem w_c16 : (Jvm.Cond.code ({ cls := "java/lang/String", name := "isLatin1", desc := "()Z" } : Jvm.MethodName) jdk_42_method_154_code (1 : Nat) (Option.some Jvm.ClassFile.FieldType.boolean)).before args0 about1 = true := code_word (m := ⟨8, 7⟩) (meth := k8m7) (c := k8c7) (by decide +kernel) rfl rfl rfl (by decide +kernel)
set_option maxRecDepth 65536 in
theorem w_c17 : (Jvm.Cond.code ({ cls := "java/lang/String", name := "checkIndex", desc := "(II)V" } : Jvm.MethodName) jdk_42_method_155_code (2 : Nat) (Option.none : Option Jvm.ClassFile.FieldType)).before args0 about1 = true := code_word (m := ⟨8, 8⟩) (meth := k8m8) (c := k8c8) (by decide +kernel) rfl rfl rfl (by decide +kernel)
set_option maxRecDepth 65536 in
theorem w_c18 : (Jvm.Cond.code ({ cls := "jdk/internal/util/Preconditions", name := "checkIndex", desc := "(IILjava/util/function/BiFunction;)I" } : Jvm.MethodName) jdk_41_method_11_code (3 : Nat) (Option.some Jvm.ClassFile.FieldType.int)).before args0 about1 = true := code_word (m := ⟨12, 1⟩) (meth := k12m1) (c := k12c1) (by decide +kernel) rfl rfl rfl (by decide +kernel)
set_option maxRecDepth 65536 in
theorem w_c19 : (Jvm.Cond.code ({ cls := "com/example/minho/minho/core/Limits", name := "utf8Length", desc := "(I)I" } : Jvm.MethodName) prog_23_method_10_code (2 : Nat) (Option.some Jvm.ClassFile.FieldType.int)).before args0 about1 = true := code_word (m := ⟨11, 3⟩) (meth := k11m3) (c := k11c3) (by decide +kernel) rfl rfl rfl (by decide +kernel)
set_option maxRecDepth 65536 in
theorem w_c20 : (Jvm.Cond.code ({ cls := "java/lang/Character", name := "charCount", desc := "(I)I" } : Jvm.MethodName) jdk_89_method_18_code (1 : Nat) (Option.some Jvm.ClassFile.FieldType.int)).before args0 about1 = true := code_word (m := ⟨13, 0⟩) (meth := k13m0) (c := k13c0) (by decide +kernel) rfl rfl rfl (by decide +kernel)
set_option maxRecDepth 65536 in
theorem w_c21 : (Jvm.Cond.code ({ cls := "com/example/minho/minho/core/VersionedValue", name := "equals", desc := "(Ljava/lang/Object;)Z" } : Jvm.MethodName) prog_44_method_4_code (3 : Nat) (Option.some Jvm.ClassFile.FieldType.boolean)).before args0 about1 = true := code_word (m := ⟨10, 1⟩) (meth := k10m1) (c := k10c1) (by decide +kernel) rfl rfl rfl (by decide +kernel)
set_option maxRecDepth 65536 in
theorem w_c22 : (Jvm.Cond.code ({ cls := "java/lang/String", name := "equals", desc := "(Ljava/lang/Object;)Z" } : Jvm.MethodName) jdk_42_method_66_code (3 : Nat) (Option.some Jvm.ClassFile.FieldType.boolean)).before args0 about1 = true := code_word (m := ⟨8, 4⟩) (meth := k8m4) (c := k8c4) (by decide +kernel) rfl rfl rfl (by decide +kernel)
set_option maxRecDepth 65536 in
theorem w_c23 : (Jvm.Cond.code ({ cls := "java/lang/StringLatin1", name := "equals", desc := "([B[B)Z" } : Jvm.MethodName) jdk_43_method_13_code (3 : Nat) (Option.some Jvm.ClassFile.FieldType.boolean)).before args0 about1 = true := code_word (m := ⟨14, 1⟩) (meth := k14m1) (c := k14c1) (by decide +kernel) rfl rfl rfl (by decide +kernel)
def codes1 : List Jvm.Cond := [Jvm.Cond.code x code maxLocals ret, Jvm.Cond.code ({ cls := "java/lang/Math", name := "max", desc := "(JJ)J" } : Jvm.MethodName) jdk_29_method_66_code (4 : Nat) (Option.some Jvm.ClassFile.FieldType.long), Jvm.Cond.code ({ cls := "com/example/minho/minho/core/VersionedValueEqualsPinLaw", name := "mk", desc := "(II)Ljava/lang/String;" } : Jvm.MethodName) method_4_code (2 : Nat) (Option.some (Jvm.ClassFile.FieldType.object "java/lang/String")), Jvm.Cond.code ({ cls := "com/example/minho/minho/core/VersionedValueEqualsPinLaw", name := "ch", desc := "(II)C" } : Jvm.MethodName) method_3_code (2 : Nat) (Option.some Jvm.ClassFile.FieldType.char), Jvm.Cond.code ({ cls := "java/lang/String", name := "<init>", desc := "([C)V" } : Jvm.MethodName) jdk_42_method_3_code (2 : Nat) (Option.none : Option Jvm.ClassFile.FieldType), Jvm.Cond.code ({ cls := "java/lang/String", name := "<init>", desc := "([CIILjava/lang/Void;)V" } : Jvm.MethodName) jdk_42_method_149_code (6 : Nat) (Option.none : Option Jvm.ClassFile.FieldType), Jvm.Cond.code ({ cls := "java/lang/Object", name := "<init>", desc := "()V" } : Jvm.MethodName) object_method_1_code (1 : Nat) (Option.none : Option Jvm.ClassFile.FieldType), Jvm.Cond.code ({ cls := "java/lang/StringUTF16", name := "compress", desc := "([CII)[B" } : Jvm.MethodName) jdk_52_method_16_code (6 : Nat) (Option.some (Jvm.ClassFile.FieldType.array Jvm.ClassFile.FieldType.byte)), Jvm.Cond.code ({ cls := "java/lang/StringUTF16", name := "compress", desc := "([CI[BII)I" } : Jvm.MethodName) jdk_52_method_21_code (7 : Nat) (Option.some Jvm.ClassFile.FieldType.int), Jvm.Cond.code ({ cls := "java/lang/StringUTF16", name := "coderFromArrayLen", desc := "([BI)B" } : Jvm.MethodName) jdk_52_method_15_code (2 : Nat) (Option.some Jvm.ClassFile.FieldType.byte), Jvm.Cond.code ({ cls := "com/example/minho/minho/core/VersionedValue", name := "<init>", desc := "(Ljava/lang/String;J)V" } : Jvm.MethodName) prog_44_method_1_code (4 : Nat) (Option.none : Option Jvm.ClassFile.FieldType), Jvm.Cond.code ({ cls := "com/example/minho/minho/core/Limits", name := "requireValue", desc := "(Ljava/lang/String;)Ljava/lang/String;" } : Jvm.MethodName) prog_23_method_5_code (1 : Nat) (Option.some (Jvm.ClassFile.FieldType.object "java/lang/String")), Jvm.Cond.code ({ cls := "com/example/minho/minho/core/Limits", name := "isUtf8Within", desc := "(Ljava/lang/String;IZ)Z" } : Jvm.MethodName) prog_23_method_9_code (6 : Nat) (Option.some Jvm.ClassFile.FieldType.boolean), Jvm.Cond.code ({ cls := "java/lang/String", name := "length", desc := "()I" } : Jvm.MethodName) jdk_42_method_54_code (1 : Nat) (Option.some Jvm.ClassFile.FieldType.int), Jvm.Cond.code ({ cls := "java/lang/String", name := "coder", desc := "()B" } : Jvm.MethodName) jdk_42_method_152_code (1 : Nat) (Option.some Jvm.ClassFile.FieldType.byte), Jvm.Cond.code ({ cls := "java/lang/String", name := "codePointAt", desc := "(I)I" } : Jvm.MethodName) jdk_42_method_57_code (3 : Nat) (Option.some Jvm.ClassFile.FieldType.int), Jvm.Cond.code ({ cls := "java/lang/String", name := "isLatin1", desc := "()Z" } : Jvm.MethodName) jdk_42_method_154_code (1 : Nat) (Option.some Jvm.ClassFile.FieldType.boolean), Jvm.Cond.code ({ cls := "java/lang/String", name := "checkIndex", desc := "(II)V" } : Jvm.MethodName) jdk_42_method_155_code (2 : Nat) (Option.none : Option Jvm.ClassFile.FieldType), Jvm.Cond.code ({ cls := "jdk/internal/util/Preconditions", name := "checkIndex", desc := "(IILjava/util/function/BiFunction;)I" } : Jvm.MethodName) jdk_41_method_11_code (3 : Nat) (Option.some Jvm.ClassFile.FieldType.int), Jvm.Cond.code ({ cls := "com/example/minho/minho/core/Limits", name := "utf8Length", desc := "(I)I" } : Jvm.MethodName) prog_23_method_10_code (2 : Nat) (Option.some Jvm.ClassFile.FieldType.int), Jvm.Cond.code ({ cls := "java/lang/Character", name := "charCount", desc := "(I)I" } : Jvm.MethodName) jdk_89_method_18_code (1 : Nat) (Option.some Jvm.ClassFile.FieldType.int), Jvm.Cond.code ({ cls := "com/example/minho/minho/core/VersionedValue", name := "equals", desc := "(Ljava/lang/Object;)Z" } : Jvm.MethodName) prog_44_method_4_code (3 : Nat) (Option.some Jvm.ClassFile.FieldType.boolean), Jvm.Cond.code ({ cls := "java/lang/String", name := "equals", desc := "(Ljava/lang/Object;)Z" } : Jvm.MethodName) jdk_42_method_66_code (3 : Nat) (Option.some Jvm.ClassFile.FieldType.boolean), Jvm.Cond.code ({ cls := "java/lang/StringLatin1", name := "equals", desc := "([B[B)Z" } : Jvm.MethodName) jdk_43_method_13_code (3 : Nat) (Option.some Jvm.ClassFile.FieldType.boolean)]
set_option maxRecDepth 65536 in
theorem codes_eq : words1.filter isCode = codes1 := rfl
theorem w_codes : ∀ c ∈ words1.filter isCode, c.before args0 about1 = true := by
  rw [codes_eq]
  intro c hc
  simp only [codes1, List.mem_cons, List.not_mem_nil, or_false] at hc
  rcases hc with rfl | rfl | rfl | rfl | rfl | rfl | rfl | rfl | rfl | rfl | rfl | rfl | rfl | rfl | rfl | rfl | rfl | rfl | rfl | rfl | rfl | rfl | rfl | rfl
  · exact w_c0
  · exact w_c1
  · exact w_c2
  · exact w_c3
  · exact w_c4
  · exact w_c5
  · exact w_c6
  · exact w_c7
  · exact w_c8
  · exact w_c9
  · exact w_c10
  · exact w_c11
  · exact w_c12
  · exact w_c13
  · exact w_c14
  · exact w_c15
  · exact w_c16
  · exact w_c17
  · exact w_c18
  · exact w_c19
  · exact w_c20
  · exact w_c21
  · exact w_c22
  · exact w_c23
set_option maxRecDepth 65536 in
theorem w_t1 : (words1.take 24).all (fun c => isCode c || c.before args0 about1) = true := by decide +kernel
set_option maxRecDepth 65536 in
theorem w_t2 : ((words1.drop 24).take 24).all (fun c => isCode c || c.before args0 about1) = true := by decide +kernel
set_option maxRecDepth 65536 in
theorem w_t3 : (((words1.drop 24).drop 24).take 24).all (fun c => isCode c || c.before args0 about1) = true := by decide +kernel
set_option maxRecDepth 65536 in
theorem w_t4 : ((((words1.drop 24).drop 24).drop 24).take 24).all (fun c => isCode c || c.before args0 about1) = true := by decide +kernel
set_option maxRecDepth 65536 in
theorem w_t5 : (((((words1.drop 24).drop 24).drop 24).drop 24).take 24).all (fun c => isCode c || c.before args0 about1) = true := by decide +kernel
set_option maxRecDepth 65536 in
theorem w_t6 : (((((words1.drop 24).drop 24).drop 24).drop 24).drop 24).all (fun c => isCode c || c.before args0 about1) = true := by decide +kernel
theorem w_tables : (allAtoms (Jvm.Cond.code x code maxLocals ret :: tables_1)).before args0 about1 = true := by
  rw [allAtoms_all]
  show words1.all (fun c => c.before args0 about1) = true
  refine all_split ?_ w_codes
  rw [← List.take_append_drop 24 words1, List.all_append, w_t1, ← List.take_append_drop 24 (words1.drop 24), List.all_append, w_t2, ← List.take_append_drop 24 ((words1.drop 24).drop 24), List.all_append, w_t3, ← List.take_append_drop 24 (((words1.drop 24).drop 24).drop 24), List.all_append, w_t4, ← List.take_append_drop 24 ((((words1.drop 24).drop 24).drop 24).drop 24), List.all_append, w_t5, w_t6]
  rfl
set_option maxRecDepth 65536 in
theorem w_rest : rest_1_c.before args0 about1 = true := by decide +kernel
set_option maxRecDepth 65536 in
theorem w_case : (Jvm.Cond.and given_1 narrow_1).before args0 about1 = true := by decide +kernel
set_option maxRecDepth 65536 in
theorem w_consts : constsHeld consts_1 about1 := Jvm.Lit.constsHeldB_iff.mp (by decide +kernel)
theorem w_applies : (headSpec (Jvm.Cond.code x code maxLocals ret :: tables_1) room_1).applies x e0.platform about1 = true :=
  (Spec.applies_iff w_frames).mpr ⟨w_running, w_runnable, w_alone, w_named, w_hears, w_ripe, w_room, w_tables⟩
theorem atStart : AtStart classFile x code maxLocals ret World_1 tables_1 room_1 Calls_1 rest_1 Pre_1 launch0 p0 e0 about1 theMethod args0 below0 :=
  ⟨lists_1, trivial, launch0.admits_env _ _ _, launch0.least_env, fairChoices_fair.cas, fairChoices_fair.clock, w_frames, w_args, w_heap, w_applies, ⟨w_consts, trivial⟩, w_rest, w_case⟩
end start1
theorem witness_1 : WitnessClaimed_1 := ⟨start1.p0, start1.e0, start1.about1, start1.theMethod, start1.args0, start1.below0, start1.atStart⟩
end Jvm.Pilot.@@N@@
