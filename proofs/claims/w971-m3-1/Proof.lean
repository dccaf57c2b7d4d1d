import JvmDerived
import JvmDerived.Pilot.@@N@@Statement
import JvmDerived.Pilot.@@N@@Code
set_option linter.unusedVariables false
set_option linter.unusedSimpArgs false
namespace Jvm.OwnKit
open Sem ClassFile Op Lib Jvm.Stand Jvm.Free Jvm.LawKit Jvm.RoadKit
section Own
variable {p : Program} {l : Launch} {e : Env} {R : Room} {s s0 : State} {m : MethodId} {args : Array Value} {below : List Frame} {meth : Method} {c : Code} {T : State} {locs : List Loc} {cells slots : Nat} {Z : State} {a0 : Array Value} {h : Heap}
/-- a walk comes to its return; Q says what it leaves; En is the frame's word -/
def Done (En : State → Outcome → State → List Loc → Nat → Nat → Prop) (p : Program) (e : Env) (below : List Frame) (s : State) (R : Room) (Q : Option Value → Heap → Vm → List Loc → Prop) (U : State) : Prop :=
  ∃ s₂ o, Steps p.tables e below U s₂ ∧ s₂.status = .running ∧ Ended s₂ below o ∧ ∃ v L, o = .returned v ∧ Q v s₂.heap s₂.vm L ∧ En s o s₂ L R.cells R.slots
variable {En : State → Outcome → State → List Loc → Nat → Nat → Prop} {Q : Option Value → Heap → Vm → List Loc → Prop} {U U' : State}
theorem Done.step (k : ∀ t, Steps p.tables e below U' t → Steps p.tables e below U t) (h : Done En p e below s R Q U') : Done En p e below s R Q U := by
  obtain ⟨s₂, o, h1, r⟩ := h
  exact ⟨s₂, o, k _ h1, r⟩
theorem Done.go (k : Steps p.tables e below U U') (h : Done En p e below s R Q U') : Done En p e below s R Q U := by
  obtain ⟨s₂, o, h1, r⟩ := h
  exact ⟨s₂, o, k.trans h1, r⟩
/-- the method may be left here -/
def Leaves (En : State → Outcome → State → List Loc → Nat → Nat → Prop) (e : Env) (below : List Frame) (s : State) (m : MethodId) (meth : Method) (T : State) (locs : List Loc) (R : Room) : Prop :=
  ∀ v : Option Value, (meth.sig.returnType = none → v = none) → ∃ fs, (∀ (f : JFrame) (acts : List Action), f.method = m → f.locked = none → f.entered = [] → (doReturn e (T.setTop f) acts v).1 = T.setFrames fs) ∧
    (T.setFrames fs).status = .running ∧ Ended (T.setFrames fs) below (.returned v) ∧ En s (.returned v) (T.setFrames fs) locs R.cells R.slots
theorem leavesF (X : Stand p l e R s m args below meth c T locs cells slots) (hlk : meth.locks = false) (hc : cells ≤ R.cells) (hs : slots ≤ R.slots) : Leaves FrameEnd e below s m meth T locs R := by
  intro v hv
  obtain ⟨fs, hr, hrun, hended, hW, hsame⟩ := X.leave hv hlk
  exact ⟨fs, hr, hrun, hended, ⟨_, rfl⟩, hW, hsame.mono hc hs⟩
theorem leavesW {vm0 : Vm} (X : Stand p l e R (s.setVm vm0) m args below meth c T locs cells slots) {n : Nat} (hS : s.Since vm0 n) (hn : n ≤ T.heap.size) (hlk : meth.locks = false) (hc : cells ≤ R.cells) (hs : slots ≤ R.slots) : Leaves ReturnedEndW e below s m meth T locs R := by
  intro v hv
  obtain ⟨fs, hr, hrun, hended, h1, h2, h3, h4⟩ := X.leaveW hS hn hv hlk
  exact ⟨fs, hr, hrun, hended, h1, h2, h3, h4.mono hc hs⟩
theorem Done.retI (Lv : Leaves En e below s0 m meth T locs R) (X : Stand p l e R s m args below meth c T locs cells slots) (hx : p.tables.exec = Jvm.exec) {pc : Nat} {Ls : Array Slot} {z : Int32} {rest : List Value} (hret : meth.sig.returnType = some .int) (hd : decode c.code pc = .ok (.ireturn, 1))
    (hq : Q (some (.int z)) T.heap T.vm locs) : Done En p e below s0 R Q (T.setTop (mkF m pc Ls (.int z :: rest))) := by
  obtain ⟨fs, hr, hrun, hended, hE⟩ := Lv (some (.int z)) (fun h => by rw [hret] at h; cases h)
  exact ⟨_, _, retOut X hx hret rfl (Or.inl ⟨rfl, Or.inl rfl, z, rfl⟩) hd hr, hrun, hended, _, _, rfl, hq, hE⟩
theorem Done.retJ (Lv : Leaves En e below s0 m meth T locs R) (X : Stand p l e R s m args below meth c T locs cells slots) (hx : p.tables.exec = Jvm.exec) {pc : Nat} {Ls : Array Slot} {z : Int64} {rest : List Value} (hret : meth.sig.returnType = some .long) (hd : decode c.code pc = .ok (.lreturn, 1))
    (hq : Q (some (.long z)) T.heap T.vm locs) : Done En p e below s0 R Q (T.setTop (mkF m pc Ls (.long z :: rest))) := by
  obtain ⟨fs, hr, hrun, hended, hE⟩ := Lv (some (.long z)) (fun h => by rw [hret] at h; cases h)
  exact ⟨_, _, retOut X hx hret rfl (Or.inr (Or.inl ⟨rfl, rfl, z, rfl⟩)) hd hr, hrun, hended, _, _, rfl, hq, hE⟩
theorem Done.retD (Lv : Leaves En e below s0 m meth T locs R) (X : Stand p l e R s m args below meth c T locs cells slots) (hx : p.tables.exec = Jvm.exec) {pc : Nat} {Ls : Array Slot} {z : UInt64} {rest : List Value} (hret : meth.sig.returnType = some .double) (hd : decode c.code pc = .ok (.dreturn, 1))
    (hq : Q (some (.double z)) T.heap T.vm locs) : Done En p e below s0 R Q (T.setTop (mkF m pc Ls (.double z :: rest))) := by
  obtain ⟨fs, hr, hrun, hended, hE⟩ := Lv (some (.double z)) (fun h => by rw [hret] at h; cases h)
  exact ⟨_, _, retOut X hx hret rfl (Or.inr (Or.inr (Or.inl ⟨rfl, rfl, z, rfl⟩))) hd hr, hrun, hended, _, _, rfl, hq, hE⟩
theorem Done.retA (Lv : Leaves En e below s0 m meth T locs R) (X : Stand p l e R s m args below meth c T locs cells slots) (hx : p.tables.exec = Jvm.exec) {pc : Nat} {Ls : Array Slot} {w : Value} {t : FieldType} {rest : List Value} (hret : meth.sig.returnType = some t) (ht : t.isReference = true) (hw : w.isRef = true) (hd : decode c.code pc = .ok (.areturn, 1))
    (hq : Q (some w) T.heap T.vm locs) : Done En p e below s0 R Q (T.setTop (mkF m pc Ls (w :: rest))) := by
  obtain ⟨fs, hr, hrun, hended, hE⟩ := Lv (some w) (fun h => by rw [hret] at h; cases h)
  have hn : narrow t w = w := by rcases ref_cases hw with rfl | ⟨a, rfl⟩ <;> cases t <;> rfl
  exact ⟨_, _, retOut X hx hret hn (Or.inr (Or.inr (Or.inr (Or.inr ⟨rfl, ht, hw⟩)))) hd hr, hrun, hended, _, _, rfl, hq, hE⟩
theorem Done.retN (Lv : Leaves En e below s0 m meth T locs R) (X : Stand p l e R s m args below meth c T locs cells slots) (hx : p.tables.exec = Jvm.exec) {pc : Nat} {Ls : Array Slot} {z : Int32} {t : FieldType} {rest : List Value} (hret : meth.sig.returnType = some t) (ht : t = .boolean ∨ t = .byte ∨ t = .char ∨ t = .short) (hd : decode c.code pc = .ok (.ireturn, 1))
    (hq : Q (some (.int (nar t z))) T.heap T.vm locs) : Done En p e below s0 R Q (T.setTop (mkF m pc Ls (.int z :: rest))) := by
  obtain ⟨fs, hr, hrun, hended, hE⟩ := Lv (some (.int (nar t z))) (fun h => by rw [hret] at h; cases h)
  exact ⟨_, _, Jvm.RoadKit.retN X hx hret ht hd hr, hrun, hended, _, _, rfl, hq, hE⟩
theorem Done.retV (Lv : Leaves En e below s0 m meth T locs R) (X : Stand p l e R s m args below meth c T locs cells slots) (hx : p.tables.exec = Jvm.exec) {pc : Nat} {Ls : Array Slot} (hret : meth.sig.returnType = none) (hd : decode c.code pc = .ok (.return_, 1))
    (hq : Q none T.heap T.vm locs) : Done En p e below s0 R Q (T.setTop (mkF m pc Ls [])) := by
  obtain ⟨fs, hr, hrun, hended, hE⟩ := Lv none (fun _ => rfl)
  exact ⟨_, _, X.returnOut hx hret hd hr, hrun, hended, _, _, rfl, hq, hE⟩
/-- a body's contract: from the arguments as' and the heap h0 it returns, and Q holds; PV is asked of the tables -/
def Ctr (En : State → Outcome → State → List Loc → Nat → Nat → Prop) (l : Launch) (Z : State) (y : MethodName) (code : ByteArray) (ml : Nat) (rt : Option FieldType) (ws : List Jvm.Cond) (rm : Room) (as' : Array Value) (h0 : Heap) (PV : Vm → Prop) (Q : Option Value → Heap → Vm → List Loc → Prop) : Prop :=
  MetFree l y (head1 (Jvm.Cond.code y code ml rt :: ws) rm) (fun a U => a = as' ∧ Z.Warmed39 U.vm ∧ U.heap = h0 ∧ PV U.vm) (fun _ _ _ _ _ => True) (fun _ U o U' => ∃ v L, o = .returned v ∧ Q v U'.heap U'.vm L ∧ En U o U' L rm.cells rm.slots)
abbrev TrueV : Vm → Prop := fun _ => True
theorem Ctr.intro {y : MethodName} {code : ByteArray} {ml : Nat} {rt : Option FieldType} {ws : List Jvm.Cond} {rm : Room} {as' : Array Value} {h0 : Heap} {PV : Vm → Prop} {Ls : Array Slot} (hpl : plainFor y = true) (hf : ∀ m, entryFrame m as' ml = mkF m 0 Ls [])
    (body : ∀ (p : Program) (e : Env) (s : State) (m : MethodId) (below : List Frame) (meth : Method) (c : Code) (T : State), p.tables.exec = Jvm.exec → c.code = code → c.maxLocals = ml → s.vm.findClass y.cls = some m.cls → meth.name = y.name → meth.sig.returnType = rt → meth.locks = false → Z.Warmed39 s.vm → PV s.vm → s.heap = h0 → T.heap = h0 →
      Stand p l e rm s m as' below meth c T [] 0 0 → Done En p e below s rm Q (T.setTop (mkF m 0 Ls []))) : Ctr En l Z y code ml rt ws rm as' h0 PV Q := by
  refine MetFree.of_bodySF hpl hisR ?_
  intro p e s m args below meth c s₁ Bd hml0 hP hK
  obtain ⟨rfl, hZ, hh, hV⟩ := hP
  have X0 : Stand p l e rm s m args below meth c s₁ [] 0 0 := Stand.of_body Bd
  have e0 : s₁.heap = h0 := by rw [← hh, Bd.state]; rfl
  obtain ⟨s₂, o, h1, r⟩ := body p e s m below meth c s₁ Bd.exec Bd.bytes hml0 (findClass_of_methodNamed Bd.named) (name_of_methodNamed Bd.named Bd.method).1 Bd.returns Bd.notSynchronized hZ hV hh e0 X0
  exact ⟨s₂, o, castTop (hf m) h1, r⟩
variable {Qc : Option Value → Heap → Vm → List Loc → Prop}
theorem Ctr.back {y : MethodName} {bytes : ByteArray} {maxL : Nat} {ret : Option FieldType} {rm : Room} {len W : Nat} {as' : Array Value} {PV : Vm → Prop} (hM : Ctr FrameEnd l Z y bytes maxL ret [] rm as' h PV Qc)
    (hZ : Z.Warmed39 s.vm) (hV : ∀ vm', s.WarmedH vm' → PV vm') (wc : (Jvm.Cond.code y bytes maxL ret).before a0 Z = true) (wz : (Jvm.Cond.initialized y.cls).before a0 Z = true) (hf : rm.frames + 1 ≤ R.frames) (hl : W + (maxL + 11) + rm.locals ≤ R.locals) :
    Back l R p e below s args y len W (fun A a => a = as' ∧ A.U.heap = h ∧ A.cells + rm.cells ≤ R.cells ∧ A.slots + rm.slots ≤ R.slots)
      (fun A _ v B => ∃ L, Qc v B.U.heap B.U.vm L ∧ B.locs = A.locs ++ L ∧ B.cells = A.cells + rm.cells ∧ B.slots = A.slots + rm.slots) :=
  Back.of_free (bytes := bytes) (maxL := maxL) (ret := ret) (E := fun _ _ o t L k n => k = rm.cells ∧ n = rm.slots ∧ ∃ v, o = .returned v ∧ Qc v t.heap t.vm L) hM hf hl
    (fun m meth c A a Y hp => have hU : Z.Warmed39 A.U.vm := wtrans hZ Y.warmed
      ⟨by show (Cond.and _ .tt).before a A.U = true; rw [Cond.before_and, mv hU wc]; rfl, mv hU wc, mv hU wz, hp.2.2.1, hp.2.2.2⟩)
    (fun m meth c A a g mk Y hp => ⟨hp.1, wtrans hZ Y.warmed, hp.2.1, hV _ Y.warmed⟩) (fun _ _ _ _ _ _ _ _ _ => trivial)
    (fun _ _ _ _ ⟨v, L, h1, h2, h3⟩ => ⟨L, _, _, h3, rfl, rfl, v, h1, h2⟩)
    (fun m meth c A a g mk v t L k n Y hp _ _ ⟨e1, e2, v', e3, e4⟩ => by cases e3; subst e1 e2; exact ⟨L, e4, rfl, rfl, rfl⟩)
theorem Ctr.backW {y : MethodName} {bytes : ByteArray} {maxL : Nat} {ret : Option FieldType} {rm : Room} {len W : Nat} {as' : Array Value} {PV : Vm → Prop} (hM : Ctr ReturnedEndW l Z y bytes maxL ret [] rm as' h PV Qc)
    (hZ : Z.Warmed39 s.vm) (hV : ∀ vm', s.WarmedH vm' → PV vm') (wc : (Jvm.Cond.code y bytes maxL ret).before a0 Z = true) (wz : (Jvm.Cond.initialized y.cls).before a0 Z = true) (hf : rm.frames + 1 ≤ R.frames) (hl : W + (maxL + 11) + rm.locals ≤ R.locals) :
    BackS l R p e below s args y len W (fun A a => a = as' ∧ A.U.heap = h ∧ A.cells + rm.cells ≤ R.cells ∧ A.slots + rm.slots ≤ R.slots)
      (fun A _ v B => ∃ L, Qc v B.U.heap B.U.vm L ∧ B.locs = A.locs ++ L ∧ B.cells = A.cells + rm.cells ∧ B.slots = A.slots + rm.slots) :=
  BackS.of_freeW (bytes := bytes) (maxL := maxL) (ret := ret) (E := fun _ _ o t L k n => k = rm.cells ∧ n = rm.slots ∧ ∃ v, o = .returned v ∧ Qc v t.heap t.vm L) hM hf hl
    (fun m meth c A a Y hp => have hU : Z.Warmed39 A.U.vm := wtrans hZ Y.warmed
      ⟨by show (Cond.and _ .tt).before a A.U = true; rw [Cond.before_and, mv hU wc]; rfl, mv hU wc, mv hU wz, hp.2.2.1, hp.2.2.2⟩)
    (fun m meth c A a g mk Y hp => ⟨hp.1, wtrans hZ Y.warmed, hp.2.1, hV _ Y.warmed⟩) (fun _ _ _ _ _ _ _ _ _ => trivial)
    (fun _ _ _ _ ⟨v, L, h1, h2, h3⟩ => ⟨L, _, _, h3, rfl, rfl, v, h1, h2⟩)
    (fun m meth c A a g mk v t L k n Y hp _ _ ⟨e1, e2, v', e3, e4⟩ => by cases e3; subst e1 e2; exact ⟨L, e4, rfl, rfl, rfl⟩)
theorem wAt {ws : List Jvm.Cond} (hw : ∀ d ∈ ws, d.before a0 Z = true) (k : Nat) {d : Jvm.Cond} (q : ws[k]? = some d) : d.before a0 Z = true := hw _ (List.mem_of_getElem? q)
theorem int_eq_v {first s : State} {o : Option Outcome} {idx : List Nat} {t : Term} {k : Int32} (q : (Jvm.Cond.eq t (.int k)).value args first o s idx = some true) : t.eval args first o idx s = some (.int k) := by
  cases ht : t.eval args first o idx s with
  | none => simp [Cond.value, ht] at q
  | some x => cases x <;> simp [Cond.value, Term.eval, ht] at q ⊢; exact q
/-- a truth value as the JVM returns it -/
def bP (P : Prop) [Decidable P] : Int32 := if P then 1 else 0
theorem bP_t {P : Prop} [Decidable P] (q : P) : bP P = 1 := if_pos q
theorem bP_f {P : Prop} [Decidable P] (q : ¬ P) : bP P = 0 := if_neg q
/-- what a law leaves: it returns 1, and wrote in new cells alone -/
def LawQ (n0 : Nat) : Option Value → Heap → Vm → List Loc → Prop := fun v _ _ L => v = some (.int 1) ∧ Fr n0 L
/-- what a body leaves that writes and makes nothing -/
def PureQ (r : Option Value) (h0 : Heap) : Option Value → Heap → Vm → List Loc → Prop := fun v h _ L => v = r ∧ h = h0 ∧ L = []
/-- what a constructor leaves of which no more is wanted: it wrote in ws and in new cells alone -/
def QW (n0 : Nat) (h0 : Heap) (ws : List Addr) : Option Value → Heap → Vm → List Loc → Prop := fun v h _ L => v = none ∧ Fr n0 L ∧ Keep h0 h ws
section Calls
variable {own C : String} {index : Nat} {y z : MethodName} {bytes : ByteArray} {maxL : Nat} {ret : Option FieldType} {rm : Room} {as' : Array Value} {PV : Vm → Prop} {g : JFrame} {r : Option Value}
theorem Done.callS (X : Stand p l e R s m args below meth c T locs cells slots) (hx : p.tables.exec = Jvm.exec) (hZ : Z.Warmed39 s.vm) (hown : s.vm.findClass own = some m.cls)
    (w1 : (Jvm.Cond.methodLink own index y).before a0 Z = true) (w2 : (Jvm.Cond.static y).before a0 Z = true) (w3 : (Jvm.Cond.initialized y.cls).before a0 Z = true) (w4 : (Jvm.Cond.code y bytes maxL ret).before a0 Z = true)
    (hy : y.cls ≠ "java/lang/invoke/MethodHandle" ∧ y.cls ≠ "java/lang/invoke/VarHandle") (hM : Ctr FrameEnd l Z y bytes maxL ret [] rm as' h PV Qc) (hV : ∀ vm', s.WarmedH vm' → PV vm') (eT : T.heap = h)
    (hg : g.method = m) (hsize : g.locals.size = c.maxLocals) (argsL rest : List Value) (W : Nat) (hlen : ∀ sig, parseMethodDescriptor y.desc = some sig → argsL.length = sig.parameters.length)
    (hstack : g.stack = argsL.reverse ++ rest) (has : argsL.toArray = as') (hW : 2 * g.monitorRoom + (rest.map fun v => v.category).sum ≤ W) (hdg : decode c.code g.pc = .ok (.invokestatic index, 3))
    (hf : rm.frames + 1 ≤ R.frames) (hl : W + (maxL + 11) + rm.locals ≤ R.locals) (hc : cells + rm.cells ≤ R.cells) (hs : slots + rm.slots ≤ R.slots)
    (k : ∀ (T' : State) (v : Option Value) (L : List Loc), Stand p l e R s m args below meth c T' (locs ++ L) (cells + rm.cells) (slots + rm.slots) → Qc v T'.heap T'.vm L → Done En p e below s0 R Q (T'.setTop { g with pc := g.pc + 3, stack := v.toList ++ rest })) :
    Done En p e below s0 R Q (T.setTop g) := by
  subst has
  obtain ⟨v, vm₁, ⟨T', L', k', n'⟩, -, X', ⟨L, hq, e1, e2, e3⟩, st⟩ := Jvm.LawKit.callS X hx (y := y) hown (mvT hZ w1) (mvT hZ w2) (mvT hZ w3) (mvT hZ w4) hy (hM.back (W := W) hZ hV w4 w3 hf hl) hg hsize (argsL := argsL) (rest := rest) hlen hstack hW hdg (fun _ _ => ⟨rfl, eT, hc, hs⟩)
  dsimp only [Pt.U, Pt.locs, Pt.cells, Pt.slots] at X' e1 e2 e3 st hq
  subst e1 e2 e3
  exact Done.step st (k _ _ _ X' hq)
theorem Done.callSP (X : Stand p l e R s m args below meth c T locs cells slots) (hx : p.tables.exec = Jvm.exec) (hZ : Z.Warmed39 s.vm) (hown : s.vm.findClass own = some m.cls)
    (w1 : (Jvm.Cond.methodLink own index y).before a0 Z = true) (w2 : (Jvm.Cond.static y).before a0 Z = true) (w3 : (Jvm.Cond.initialized y.cls).before a0 Z = true) (w4 : (Jvm.Cond.code y bytes maxL ret).before a0 Z = true)
    (hy : y.cls ≠ "java/lang/invoke/MethodHandle" ∧ y.cls ≠ "java/lang/invoke/VarHandle") (hM : Ctr FrameEnd l Z y bytes maxL ret [] rm as' h TrueV (PureQ r h)) (eT : T.heap = h)
    (hg : g.method = m) (hsize : g.locals.size = c.maxLocals) (argsL rest : List Value) (W : Nat) (hlen : ∀ sig, parseMethodDescriptor y.desc = some sig → argsL.length = sig.parameters.length)
    (hstack : g.stack = argsL.reverse ++ rest) (has : argsL.toArray = as') (hW : 2 * g.monitorRoom + (rest.map fun v => v.category).sum ≤ W) (hdg : decode c.code g.pc = .ok (.invokestatic index, 3))
    (hf : rm.frames + 1 ≤ R.frames) (hl : W + (maxL + 11) + rm.locals ≤ R.locals) (hc : cells ≤ R.cells) (hs : slots ≤ R.slots) (rc : rm.cells = 0) (rs : rm.slots = 0)
    (k : ∀ (T' : State), Stand p l e R s m args below meth c T' locs cells slots → T'.heap = h → Done En p e below s0 R Q (T'.setTop { g with pc := g.pc + 3, stack := r.toList ++ rest })) :
    Done En p e below s0 R Q (T.setTop g) := by
  refine Done.callS X hx hZ hown w1 w2 w3 w4 hy hM (fun _ _ => trivial) eT hg hsize argsL rest W hlen hstack has hW hdg hf hl (by rw [rc]; exact hc) (by rw [rs]; exact hs) ?_
  intro T' v L X' q
  obtain ⟨rfl, e1, rfl⟩ := q
  rw [List.append_nil, rc, rs] at X'
  exact k T' X' e1
theorem Done.callI (X : Stand p l e R s m args below meth c T locs cells slots) (hx : p.tables.exec = Jvm.exec) (hZ : Z.Warmed39 s.vm) (hy1 : y.name = "<init>") (hown : s.vm.findClass own = some m.cls)
    (w1 : (Jvm.Cond.methodLink own index y).before a0 Z = true) (w2 : (Jvm.Cond.instanceMethod y).before a0 Z = true) (w3 : (Jvm.Cond.initialized y.cls).before a0 Z = true) (w4 : (Jvm.Cond.code y bytes maxL none).before a0 Z = true)
    (hy : y.cls ≠ "java/lang/invoke/MethodHandle" ∧ y.cls ≠ "java/lang/invoke/VarHandle") (hM : Ctr FrameEnd l Z y bytes maxL none [] rm as' h PV Qc) (hV : ∀ vm', s.WarmedH vm' → PV vm') (eT : T.heap = h)
    (hg : g.method = m) (hsize : g.locals.size = c.maxLocals) (a : Addr) (argsL rest : List Value) (W : Nat) (hlen : ∀ sig, parseMethodDescriptor y.desc = some sig → argsL.length = sig.parameters.length)
    (hstack : g.stack = argsL.reverse ++ .ref a :: rest) (has : (Value.ref a :: argsL).toArray = as') (hW : 2 * g.monitorRoom + (rest.map fun v => v.category).sum ≤ W) (hdg : decode c.code g.pc = .ok (.invokespecial index, 3))
    (hf : rm.frames + 1 ≤ R.frames) (hl : W + (maxL + 11) + rm.locals ≤ R.locals) (hc : cells + rm.cells ≤ R.cells) (hs : slots + rm.slots ≤ R.slots)
    (k : ∀ (T' : State) (v : Option Value) (L : List Loc), Stand p l e R s m args below meth c T' (locs ++ L) (cells + rm.cells) (slots + rm.slots) → Qc v T'.heap T'.vm L → Done En p e below s0 R Q (T'.setTop { g with pc := g.pc + 3, stack := v.toList ++ rest })) :
    Done En p e below s0 R Q (T.setTop g) := by
  subst has
  obtain ⟨v, vm₁, ⟨T', L', k', n'⟩, -, X', ⟨L, hq, e1, e2, e3⟩, st⟩ := X.specialBack hx (y := y) hy1 hown (mvT hZ w1) (mvT hZ w2) (mvT hZ w4) hy (hM.back (W := W) hZ hV w4 w3 hf hl) hg hsize (Steps.refl _) (a := a) (argsL := argsL) (rest := rest) hlen hstack hW hdg (fun _ _ => ⟨rfl, eT, hc, hs⟩)
  dsimp only [Pt.U, Pt.locs, Pt.cells, Pt.slots] at X' e1 e2 e3 st hq
  subst e1 e2 e3
  exact Done.go st (k _ _ _ X' hq)
theorem Done.callV (X : Stand p l e R s m args below meth c T locs cells slots) (hx : p.tables.exec = Jvm.exec) (hZ : Z.Warmed39 s.vm) (hown : s.vm.findClass own = some m.cls)
    (w1 : (Jvm.Cond.methodLink own index y).before a0 Z = true) (w2 : (Jvm.Cond.declares y).before a0 Z = true) (hnf : NotFace s y) (w5 : (Jvm.Cond.selects C y z).before a0 Z = true) (w6 : (Jvm.Cond.instanceMethod z).before a0 Z = true)
    (w3 : (Jvm.Cond.initialized z.cls).before a0 Z = true) (w4 : (Jvm.Cond.code z bytes maxL ret).before a0 Z = true)
    (hy : y.cls ≠ "java/lang/invoke/MethodHandle" ∧ y.cls ≠ "java/lang/invoke/VarHandle") (hM : Ctr FrameEnd l Z z bytes maxL ret [] rm as' h PV Qc) (hV : ∀ vm', s.WarmedH vm' → PV vm') (eT : T.heap = h) {b : Addr} (E : Exa Z h b C)
    (hg : g.method = m) (hsize : g.locals.size = c.maxLocals) (argsL rest : List Value) (W : Nat) (hlen : ∀ sig, parseMethodDescriptor y.desc = some sig → argsL.length = sig.parameters.length)
    (hstack : g.stack = argsL.reverse ++ .ref b :: rest) (has : (Value.ref b :: argsL).toArray = as') (hW : 2 * g.monitorRoom + (rest.map fun v => v.category).sum ≤ W) (hdg : decode c.code g.pc = .ok (.invokevirtual index, 3))
    (hf : rm.frames + 1 ≤ R.frames) (hl : W + (maxL + 11) + rm.locals ≤ R.locals) (hc : cells + rm.cells ≤ R.cells) (hs : slots + rm.slots ≤ R.slots)
    (k : ∀ (T' : State) (v : Option Value) (L : List Loc), Stand p l e R s m args below meth c T' (locs ++ L) (cells + rm.cells) (slots + rm.slots) → Qc v T'.heap T'.vm L → Done En p e below s0 R Q (T'.setTop { g with pc := g.pc + 3, stack := v.toList ++ rest })) :
    Done En p e below s0 R Q (T.setTop g) := by
  subst has
  obtain ⟨cq, kq, qa, qb, qc⟩ := isOf (T := T) hZ eT E
  obtain ⟨v, vm₁, ⟨T', L', k', n'⟩, -, X', ⟨L, hq, e1, e2, e3⟩, st⟩ := X.virtualBack hx (y := y) (z := z) hown (mvT hZ w1) (mvT hZ w2) hnf (mvT hZ w5) (mvT hZ w6) hy (hM.back (W := W) hZ hV w4 w3 hf hl) qa qc hg hsize (Steps.refl _) (argsL := argsL) (rest := rest) hlen hstack hW hdg (fun _ _ => ⟨rfl, eT, hc, hs⟩)
  dsimp only [Pt.U, Pt.locs, Pt.cells, Pt.slots] at X' e1 e2 e3 st hq
  subst e1 e2 e3
  exact Done.go st (k _ _ _ X' hq)
theorem Done.callVP (X : Stand p l e R s m args below meth c T locs cells slots) (hx : p.tables.exec = Jvm.exec) (hZ : Z.Warmed39 s.vm) (hown : s.vm.findClass own = some m.cls)
    (w1 : (Jvm.Cond.methodLink own index y).before a0 Z = true) (w2 : (Jvm.Cond.declares y).before a0 Z = true) (hnf : NotFace s y) (w5 : (Jvm.Cond.selects C y z).before a0 Z = true) (w6 : (Jvm.Cond.instanceMethod z).before a0 Z = true)
    (w3 : (Jvm.Cond.initialized z.cls).before a0 Z = true) (w4 : (Jvm.Cond.code z bytes maxL ret).before a0 Z = true)
    (hy : y.cls ≠ "java/lang/invoke/MethodHandle" ∧ y.cls ≠ "java/lang/invoke/VarHandle") (hM : Ctr FrameEnd l Z z bytes maxL ret [] rm as' h TrueV (PureQ r h)) (eT : T.heap = h) {b : Addr} (E : Exa Z h b C)
    (hg : g.method = m) (hsize : g.locals.size = c.maxLocals) (argsL rest : List Value) (W : Nat) (hlen : ∀ sig, parseMethodDescriptor y.desc = some sig → argsL.length = sig.parameters.length)
    (hstack : g.stack = argsL.reverse ++ .ref b :: rest) (has : (Value.ref b :: argsL).toArray = as') (hW : 2 * g.monitorRoom + (rest.map fun v => v.category).sum ≤ W) (hdg : decode c.code g.pc = .ok (.invokevirtual index, 3))
    (hf : rm.frames + 1 ≤ R.frames) (hl : W + (maxL + 11) + rm.locals ≤ R.locals) (hc : cells ≤ R.cells) (hs : slots ≤ R.slots) (rc : rm.cells = 0) (rs : rm.slots = 0)
    (k : ∀ (T' : State), Stand p l e R s m args below meth c T' locs cells slots → T'.heap = h → Done En p e below s0 R Q (T'.setTop { g with pc := g.pc + 3, stack := r.toList ++ rest })) :
    Done En p e below s0 R Q (T.setTop g) := by
  refine Done.callV X hx hZ hown w1 w2 hnf w5 w6 w3 w4 hy hM (fun _ _ => trivial) eT E hg hsize argsL rest W hlen hstack has hW hdg hf hl (by rw [rc]; exact hc) (by rw [rs]; exact hs) ?_
  intro T' v L X' q
  obtain ⟨rfl, e1, rfl⟩ := q
  rw [List.append_nil, rc, rs] at X'
  exact k T' X' e1
/-- calls that a law of the library or of a paste pays -/
theorem Done.callIB {nc ns W : Nat} {Qh : Option Value → Heap → List Loc → Prop} (X : Stand p l e R s m args below meth c T locs cells slots) (hx : p.tables.exec = Jvm.exec) (hZ : Z.Warmed39 s.vm) (hy1 : y.name = "<init>") (hown : s.vm.findClass own = some m.cls)
    (w1 : (Jvm.Cond.methodLink own index y).before a0 Z = true) (w2 : (Jvm.Cond.instanceMethod y).before a0 Z = true) (w4 : (Jvm.Cond.code y bytes maxL none).before a0 Z = true)
    (hy : y.cls ≠ "java/lang/invoke/MethodHandle" ∧ y.cls ≠ "java/lang/invoke/VarHandle")
    (hK : Back l R p e below s args y 3 W (fun A a => a = as' ∧ A.U.heap = h ∧ A.cells + nc ≤ R.cells ∧ A.slots + ns ≤ R.slots) (fun A _ v B => ∃ L, Qh v B.U.heap L ∧ B.locs = A.locs ++ L ∧ B.cells = A.cells + nc ∧ B.slots = A.slots + ns)) (eT : T.heap = h)
    (hg : g.method = m) (hsize : g.locals.size = c.maxLocals) (a : Addr) (argsL rest : List Value) (hlen : ∀ sig, parseMethodDescriptor y.desc = some sig → argsL.length = sig.parameters.length)
    (hstack : g.stack = argsL.reverse ++ .ref a :: rest) (has : (Value.ref a :: argsL).toArray = as') (hW : 2 * g.monitorRoom + (rest.map fun v => v.category).sum ≤ W) (hdg : decode c.code g.pc = .ok (.invokespecial index, 3))
    (hc : cells + nc ≤ R.cells) (hs : slots + ns ≤ R.slots)
    (k : ∀ (T' : State) (v : Option Value) (L : List Loc), Stand p l e R s m args below meth c T' (locs ++ L) (cells + nc) (slots + ns) → Qh v T'.heap L → Done En p e below s0 R Q (T'.setTop { g with pc := g.pc + 3, stack := v.toList ++ rest })) :
    Done En p e below s0 R Q (T.setTop g) := by
  subst has
  obtain ⟨v, vm₁, ⟨T', L', k', n'⟩, -, X', ⟨L, hq, e1, e2, e3⟩, st⟩ := X.specialBack hx (y := y) hy1 hown (mvT hZ w1) (mvT hZ w2) (mvT hZ w4) hy hK hg hsize (Steps.refl _) (a := a) (argsL := argsL) (rest := rest) hlen hstack hW hdg (fun _ _ => ⟨rfl, eT, hc, hs⟩)
  dsimp only [Pt.U, Pt.locs, Pt.cells, Pt.slots] at X' e1 e2 e3 st hq
  subst e1 e2 e3
  exact Done.go st (k _ _ _ X' hq)
theorem Done.callVB {nc ns W : Nat} {Qh : Option Value → Heap → List Loc → Prop} (X : Stand p l e R s m args below meth c T locs cells slots) (hx : p.tables.exec = Jvm.exec) (hZ : Z.Warmed39 s.vm) (hown : s.vm.findClass own = some m.cls)
    (w1 : (Jvm.Cond.methodLink own index y).before a0 Z = true) (w2 : (Jvm.Cond.declares y).before a0 Z = true) (hnf : NotFace s y) (w5 : (Jvm.Cond.selects C y z).before a0 Z = true) (w6 : (Jvm.Cond.instanceMethod z).before a0 Z = true)
    (hy : y.cls ≠ "java/lang/invoke/MethodHandle" ∧ y.cls ≠ "java/lang/invoke/VarHandle")
    (hK : Back l R p e below s args z 3 W (fun A a => a = as' ∧ A.U.heap = h ∧ A.cells + nc ≤ R.cells ∧ A.slots + ns ≤ R.slots) (fun A _ v B => ∃ L, Qh v B.U.heap L ∧ B.locs = A.locs ++ L ∧ B.cells = A.cells + nc ∧ B.slots = A.slots + ns)) (eT : T.heap = h) {b : Addr} (E : Exa Z h b C)
    (hg : g.method = m) (hsize : g.locals.size = c.maxLocals) (argsL rest : List Value) (hlen : ∀ sig, parseMethodDescriptor y.desc = some sig → argsL.length = sig.parameters.length)
    (hstack : g.stack = argsL.reverse ++ .ref b :: rest) (has : (Value.ref b :: argsL).toArray = as') (hW : 2 * g.monitorRoom + (rest.map fun v => v.category).sum ≤ W) (hdg : decode c.code g.pc = .ok (.invokevirtual index, 3))
    (hc : cells + nc ≤ R.cells) (hs : slots + ns ≤ R.slots)
    (k : ∀ (T' : State) (v : Option Value) (L : List Loc), Stand p l e R s m args below meth c T' (locs ++ L) (cells + nc) (slots + ns) → Qh v T'.heap L → Done En p e below s0 R Q (T'.setTop { g with pc := g.pc + 3, stack := v.toList ++ rest })) :
    Done En p e below s0 R Q (T.setTop g) := by
  subst has
  obtain ⟨cq, kq, qa, qb, qc⟩ := isOf (T := T) hZ eT E
  obtain ⟨v, vm₁, ⟨T', L', k', n'⟩, -, X', ⟨L, hq, e1, e2, e3⟩, st⟩ := X.virtualBack hx (y := y) (z := z) hown (mvT hZ w1) (mvT hZ w2) hnf (mvT hZ w5) (mvT hZ w6) hy hK qa qc hg hsize (Steps.refl _) (argsL := argsL) (rest := rest) hlen hstack hW hdg (fun _ _ => ⟨rfl, eT, hc, hs⟩)
  dsimp only [Pt.U, Pt.locs, Pt.cells, Pt.slots] at X' e1 e2 e3 st hq
  subst e1 e2 e3
  exact Done.go st (k _ _ _ X' hq)
/-- the three calls of a callee that may load literals -/
theorem Done.callSW {vm0 : Vm} {k0 : Nat} (X : Stand p l e R (s.setVm vm0) m args below meth c T locs cells slots) (hx : p.tables.exec = Jvm.exec) (hZ : Z.Warmed39 vm0) (hown : vm0.findClass own = some m.cls) (hS : s.Since vm0 k0) (hk : k0 ≤ h.size)
    (w1 : (Jvm.Cond.methodLink own index y).before a0 Z = true) (w2 : (Jvm.Cond.static y).before a0 Z = true) (w3 : (Jvm.Cond.initialized y.cls).before a0 Z = true) (w4 : (Jvm.Cond.code y bytes maxL ret).before a0 Z = true)
    (hy : y.cls ≠ "java/lang/invoke/MethodHandle" ∧ y.cls ≠ "java/lang/invoke/VarHandle") (hM : Ctr ReturnedEndW l Z y bytes maxL ret [] rm as' h PV Qc) (hV : ∀ vm', (s.setVm vm0).WarmedH vm' → PV vm') (eT : T.heap = h)
    (hg : g.method = m) (hsize : g.locals.size = c.maxLocals) (argsL rest : List Value) (W : Nat) (hlen : ∀ sig, parseMethodDescriptor y.desc = some sig → argsL.length = sig.parameters.length)
    (hstack : g.stack = argsL.reverse ++ rest) (has : argsL.toArray = as') (hW : 2 * g.monitorRoom + (rest.map fun v => v.category).sum ≤ W) (hdg : decode c.code g.pc = .ok (.invokestatic index, 3))
    (hf : rm.frames + 1 ≤ R.frames) (hl : W + (maxL + 11) + rm.locals ≤ R.locals) (hc : cells + rm.cells ≤ R.cells) (hs : slots + rm.slots ≤ R.slots)
    (k : ∀ (T' : State) (v : Option Value) (L : List Loc), Stand p l e R (s.setVm T'.vm) m args below meth c T' (locs ++ L) (cells + rm.cells) (slots + rm.slots) → s.Since T'.vm T'.heap.size → Z.Warmed39 T'.vm → T'.vm.findClass own = some m.cls → (s.setVm vm0).Warmed39 T'.vm → Qc v T'.heap T'.vm L →
      Done En p e below s0 R Q (T'.setTop { g with pc := g.pc + 3, stack := v.toList ++ rest })) :
    Done En p e below s0 R Q (T.setTop g) := by
  subst has eT
  obtain ⟨v, vm₁, ⟨T', L', k', n'⟩, hW1, X', hS', hgr, ⟨L, hq, e1, e2, e3⟩, st⟩ := callSS (s := s.setVm vm0) X hx (y := y) hown (mvT (s := s.setVm vm0) hZ w1) (mvT (s := s.setVm vm0) hZ w2) (mvT (s := s.setVm vm0) hZ w3) (mvT (s := s.setVm vm0) hZ w4) hy (hM.backW (s := s.setVm vm0) (W := W) hZ hV w4 w3 hf hl) hg hsize (argsL := argsL) (rest := rest) hlen hstack hW hdg (fun _ _ => ⟨rfl, rfl, hc, hs⟩)
  dsimp only [Pt.U, Pt.locs, Pt.cells, Pt.slots] at X' e1 e2 e3 st hq hS' hgr
  subst e1 e2 e3
  exact Done.go st (k T' v L X' (hS.trans hS' (Nat.le_trans hk hgr)) (State.Warmed39.trans (t := s.setVm vm0) hZ hS'.1) (by rw [hS'.1.alike.findClass]; exact hown) hS'.1 hq)
theorem Done.callIW {vm0 : Vm} {k0 : Nat} (X : Stand p l e R (s.setVm vm0) m args below meth c T locs cells slots) (hx : p.tables.exec = Jvm.exec) (hZ : Z.Warmed39 vm0) (hy1 : y.name = "<init>") (hown : vm0.findClass own = some m.cls) (hS : s.Since vm0 k0) (hk : k0 ≤ h.size)
    (w1 : (Jvm.Cond.methodLink own index y).before a0 Z = true) (w2 : (Jvm.Cond.instanceMethod y).before a0 Z = true) (w3 : (Jvm.Cond.initialized y.cls).before a0 Z = true) (w4 : (Jvm.Cond.code y bytes maxL none).before a0 Z = true)
    (hy : y.cls ≠ "java/lang/invoke/MethodHandle" ∧ y.cls ≠ "java/lang/invoke/VarHandle") (hM : Ctr ReturnedEndW l Z y bytes maxL none [] rm as' h PV Qc) (hV : ∀ vm', (s.setVm vm0).WarmedH vm' → PV vm') (eT : T.heap = h)
    (hg : g.method = m) (hsize : g.locals.size = c.maxLocals) (a : Addr) (argsL rest : List Value) (W : Nat) (hlen : ∀ sig, parseMethodDescriptor y.desc = some sig → argsL.length = sig.parameters.length)
    (hstack : g.stack = argsL.reverse ++ .ref a :: rest) (has : (Value.ref a :: argsL).toArray = as') (hW : 2 * g.monitorRoom + (rest.map fun v => v.category).sum ≤ W) (hdg : decode c.code g.pc = .ok (.invokespecial index, 3))
    (hf : rm.frames + 1 ≤ R.frames) (hl : W + (maxL + 11) + rm.locals ≤ R.locals) (hc : cells + rm.cells ≤ R.cells) (hs : slots + rm.slots ≤ R.slots)
    (k : ∀ (T' : State) (v : Option Value) (L : List Loc), Stand p l e R (s.setVm T'.vm) m args below meth c T' (locs ++ L) (cells + rm.cells) (slots + rm.slots) → s.Since T'.vm T'.heap.size → Z.Warmed39 T'.vm → T'.vm.findClass own = some m.cls → (s.setVm vm0).Warmed39 T'.vm → Qc v T'.heap T'.vm L →
      Done En p e below s0 R Q (T'.setTop { g with pc := g.pc + 3, stack := v.toList ++ rest })) :
    Done En p e below s0 R Q (T.setTop g) := by
  subst has eT
  obtain ⟨v, vm₁, ⟨T', L', k', n'⟩, hW1, X', hS', hgr, ⟨L, hq, e1, e2, e3⟩, st⟩ := specialBackS (s := s.setVm vm0) X hx (y := y) hy1 hown (mvT (s := s.setVm vm0) hZ w1) (mvT (s := s.setVm vm0) hZ w2) (mvT (s := s.setVm vm0) hZ w4) hy (hM.backW (s := s.setVm vm0) (W := W) hZ hV w4 w3 hf hl) hg hsize (Steps.refl _) (a := a) (argsL := argsL) (rest := rest) hlen hstack hW hdg (fun _ _ => ⟨rfl, rfl, hc, hs⟩)
  dsimp only [Pt.U, Pt.locs, Pt.cells, Pt.slots] at X' e1 e2 e3 st hq hS' hgr
  subst e1 e2 e3
  exact Done.go st (k T' v L X' (hS.trans hS' (Nat.le_trans hk hgr)) (State.Warmed39.trans (t := s.setVm vm0) hZ hS'.1) (by rw [hS'.1.alike.findClass]; exact hown) hS'.1 hq)
end Calls
end Own
end Jvm.OwnKit
@@BLOCK:NumsL.lean.txt@@
/- laws to paste: Road.backV, Road.eqW, Road.empW, Road.codOf (cut by pick.py; bodies as the Statement names them) -/
namespace Jvm.Pilot.@@N@@
namespace StrChars
open Jvm Sem ClassFile Op Lib Jvm.Stand Jvm.Free.XT Jvm.Free.ALB Jvm.Free.JM Jvm.Free
open Jvm.Lib.Cold (StaticIs)
/-- a char array whose places are chars -/
def Ch (a : Addr) (A : Cell) (U : State) : Prop := Arr .char a A U ∧ Typed .char A
theorem Ch.mv {a : Addr} {A : Cell} {U U' : State} (h : Ch a A U) (hal : U.vm.Alike U'.vm) (hh : U'.heap = U.heap) : Ch a A U' := ⟨h.1.mv hal hh, h.2⟩
theorem Ch.keep {a : Addr} {A : Cell} {U U' : State} (h : Ch a A U) (hal : U.vm.Alike U'.vm) (hk : U'.heap[a]? = some A) : Ch a A U' := ⟨h.1.keep hal hk, h.2⟩
/-- what place i of a char[]'s cell holds -/
def cv (A : Cell) (i : Nat) : Int32 := match A.slots[i]? with | some (.int x) => x | _ => 0
theorem Ch.get {a : Addr} {A : Cell} {U : State} (h : Ch a A U) {i : Nat} (hi : i < A.slots.size) : A.slots[i]? = some (.int (cv A i)) := by
  have e := Array.getElem?_eq_getElem hi
  have f := h.2 i _ e
  unfold cv; rw [e]
  generalize A.slots[i] = v at f
  cases v <;> simp [fits] at f ⊢
/-- the byte that i2b leaves of a char -/
def lo8 (x : Int32) : Int32 := x.toInt8.toInt32
theorem fits_lo8 (y : Int32) : fits .byte (.int (lo8 y)) = true := by
  have h1 := y.toInt8.le_toInt
  have h2 := y.toInt8.toInt_lt
  simp only [lo8, fits, Bool.and_eq_true, decide_eq_true_eq, Int32.le_iff_toInt_le, Int8.toInt_toInt32, show (-128 : Int32).toInt = -128 from by decide, show (127 : Int32).toInt = 127 from by decide]
  omega
/-- A' is A but that each place j of lo .. hi - 1 holds f j -/
def Laid (A A' : Cell) (lo hi : Nat) (f : Nat → Value) : Prop := A'.cls = A.cls ∧ A'.vm = A.vm ∧ A'.slots.size = A.slots.size ∧ ∀ i, A'.slots[i]? = if lo ≤ i ∧ i < hi then some (f i) else A.slots[i]?
theorem Laid.zero (A : Cell) (lo : Nat) (f : Nat → Value) : Laid A A lo (lo + 0) f := ⟨rfl, rfl, rfl, fun i => by rw [if_neg (by omega)]⟩
theorem Laid.step {A Ak : Cell} {lo k : Nat} {f : Nat → Value} {v : Value} (h : Laid A Ak lo k f) (hlo : lo ≤ k) (hk : k < Ak.slots.size) (hv : v = f k) : Laid A (Ak.setSlot k v) lo (k + 1) f := by
  refine ⟨h.1, h.2.1, by simpa [Cell.setSlot] using h.2.2.1, fun i => ?_⟩
  by_cases e : k = i
  · subst e; rw [Cell.slots_setSlot_self v hk, if_pos (by omega), hv]
  · rw [Cell.slots_setSlot_ne v e, h.2.2.2 i]
    by_cases q : lo ≤ i ∧ i < k
    · rw [if_pos q, if_pos (by omega)]
    · rw [if_neg q, if_neg (by omega)]
def U16 : String := "java/lang/StringUTF16"
namespace Cmp5
def yN : MethodName := ⟨"java/lang/StringUTF16", "compress", "([CI[BII)I"⟩
abbrev yB : ByteArray := jdk_52_method_21_code
theorem d0 : decode yB 0 = .ok (.iconst 0, 1) := by decide +kernel
theorem d1 : decode yB 1 = .ok (.istore 5, 2) := by decide +kernel
theorem d3 : decode yB 3 = .ok (.iload 5, 2) := by decide +kernel
theorem d5 : decode yB 5 = .ok (.iload 4, 2) := by decide +kernel
theorem d7 : decode yB 7 = .ok (.if_icmp (.ge) 37, 3) := by decide +kernel
theorem d10 : decode yB 10 = .ok (.aload_n 0, 1) := by decide +kernel
theorem d11 : decode yB 11 = .ok (.iload_n 1, 1) := by decide +kernel
theorem d12 : decode yB 12 = .ok (.caload, 1) := by decide +kernel
theorem d13 : decode yB 13 = .ok (.istore 6, 2) := by decide +kernel
theorem d15 : decode yB 15 = .ok (.iload 6, 2) := by decide +kernel
theorem d17 : decode yB 17 = .ok (.sipush 255, 3) := by decide +kernel
theorem d20 : decode yB 20 = .ok (.if_icmp (.le) 6, 3) := by decide +kernel
theorem d26 : decode yB 26 = .ok (.aload_n 2, 1) := by decide +kernel
theorem d27 : decode yB 27 = .ok (.iload_n 3, 1) := by decide +kernel
theorem d28 : decode yB 28 = .ok (.iload 6, 2) := by decide +kernel
theorem d30 : decode yB 30 = .ok (.i2b, 1) := by decide +kernel
theorem d31 : decode yB 31 = .ok (.bastore, 1) := by decide +kernel
theorem d32 : decode yB 32 = .ok (.iinc 1 1, 3) := by decide +kernel
theorem d35 : decode yB 35 = .ok (.iinc 3 1, 3) := by decide +kernel
theorem d38 : decode yB 38 = .ok (.iinc 5 1, 3) := by decide +kernel
theorem d41 : decode yB 41 = .ok (.goto (-38), 3) := by decide +kernel
theorem d44 : decode yB 44 = .ok (.iload 4, 2) := by decide +kernel
theorem d46 : decode yB 46 = .ok (.ireturn, 1) := by decide +kernel
def site : List Cond := []
def tab : Cond := tabOf yN yB 7 (some .int) site
def P (b : Addr) (A : Cell) (d : Addr) (B : Cell) (o q len : Nat) (args : Array Value) (s : State) : Prop := args = #[.ref b, .int (Int32.ofNat o), .ref d, .int (Int32.ofNat q), .int (Int32.ofNat len)] ∧ Ch b A s ∧ Arr .byte d B s ∧ b ≠ d ∧ o + len ≤ A.slots.size ∧ q + len ≤ B.slots.size ∧ ∀ i, i < len → ¬ 255 < cv A (o + i)
def E (b : Addr) (A : Cell) (d : Addr) (B : Cell) (o q len : Nat) (r : Option Value) (s u : State) : Prop := r = some (.int (Int32.ofNat len)) ∧ ∃ B', Put d B' s u ∧ Laid B B' q (q + len) (fun j => Value.int (lo8 (cv A (o + (j - q)))))
/-- no char of the range above 255: len; the places written hold each char's low byte -/
theorem law (l : Launch) (b : Addr) (A : Cell) (d : Addr) (B : Cell) (o q len : Nat) : Law l yN 5 5 0 0 yB 7 (some .int) site (P b A d B o q len) (E b A d B o q len) (copyLocs d q len) 0 0 := by
  refine Law.of_walk (plainFor_of_name (by decide +kernel)) (by decide +kernel) (by decide +kernel) (by decide) (fun _ _ h => by rw [h.1]; rfl) (fun _ U U' hal hh h => ⟨h.1, h.2.1.mv hal hh, h.2.2.1.mv hal hh, h.2.2.2⟩) (fun r U U' V V' h1 hal h2 h => ⟨h.1, h.2.elim fun B' q => ⟨B', q.1.mv h1 h2, q.2⟩⟩) ?_
  intro p e s m args below meth c s₁ X0 hexec hbytes hml hret hlk hnm hown hh0 W hP
  obtain ⟨rfl, hA, hB, hne, l1, l2, hp⟩ := hP
  have c1 : Steps p.tables e below (s₁.setTop (entryFrame m #[.ref b, .int (Int32.ofNat o), .ref d, .int (Int32.ofNat q), .int (Int32.ofNat len)] 7)) (s₁.setTop (mkF m 0 #[.val (.ref b), .val (.int (Int32.ofNat o)), .val (.ref d), .val (.int (Int32.ofNat q)), .val (.int (Int32.ofNat len)), .unset, .unset] [])) := entry rfl
  have hA0 := hA.1.mv X0.warmed.alike hh0
  have hB0 := hB.mv X0.warmed.alike hh0
  have a31 := hA.1.2.2.2
  have c2 : Steps p.tables e below (s₁.setTop (entryFrame m #[.ref b, .int (Int32.ofNat o), .ref d, .int (Int32.ofNat q), .int (Int32.ofNat len)] 7)) (s₁.setTop (mkF m 3 #[.val (.ref b), .val (.int (Int32.ofNat o)), .val (.ref d), .val (.int (Int32.ofNat q)), .val (.int (Int32.ofNat len)), .val (.int 0), .unset] [])) := c1.trans (by
    refine iconstV X0.here hexec rfl 0 (hb hbytes d0) (by decide) ?_
    refine XS.istore X0.here hexec rfl (hb hbytes d1) rfl rfl ?_
    exact Steps.refl _)
  have loop : ∀ (r i : Nat), i + r = len → ∀ (z : Slot), (z = .unset ∨ ∃ w, z = .val w ∧ w.category = 1) → ∀ (Tl : State) (Bk : Cell), Stand p l e { frames := 0, locals := 0, cells := 0, slots := 0 } s m #[.ref b, .int (Int32.ofNat o), .ref d, .int (Int32.ofNat q), .int (Int32.ofNat len)] below meth c Tl ([] ++ copyLocs d q i) 0 0 → Put d Bk s₁ Tl → Laid B Bk q (q + i) (fun j => Value.int (lo8 (cv A (o + (j - q))))) →
      Steps p.tables e below (s₁.setTop (entryFrame m #[.ref b, .int (Int32.ofNat o), .ref d, .int (Int32.ofNat q), .int (Int32.ofNat len)] 7)) (Tl.setTop (mkF m 3 #[.val (.ref b), .val (.int (Int32.ofNat (o + i))), .val (.ref d), .val (.int (Int32.ofNat (q + i))), .val (.int (Int32.ofNat len)), .val (.int (Int32.ofNat i)), z] [])) → ∃ (T' : State) (B' : Cell) (z' : Slot), Stand p l e { frames := 0, locals := 0, cells := 0, slots := 0 } s m #[.ref b, .int (Int32.ofNat o), .ref d, .int (Int32.ofNat q), .int (Int32.ofNat len)] below meth c T' ([] ++ copyLocs d q len) 0 0 ∧ Put d B' s₁ T' ∧ Laid B B' q (q + len) (fun j => Value.int (lo8 (cv A (o + (j - q))))) ∧
      Steps p.tables e below (s₁.setTop (entryFrame m #[.ref b, .int (Int32.ofNat o), .ref d, .int (Int32.ofNat q), .int (Int32.ofNat len)] 7)) (T'.setTop (mkF m 3 #[.val (.ref b), .val (.int (Int32.ofNat (o + len))), .val (.ref d), .val (.int (Int32.ofNat (q + len))), .val (.int (Int32.ofNat len)), .val (.int (Int32.ofNat len)), z'] [])) := by
    intro r
    induction r with
    | zero =>
      intro i hi z hz Tl Bk Xl pl fl cl
      have hil : i = len := by omega
      rw [hil] at Xl fl cl
      exact ⟨Tl, Bk, z, Xl, pl, fl, cl⟩
    | succ r ih =>
      intro i hi z hz Tl Bk Xl pl fl cl
      have all := X0.warmed.alike.symm.trans Xl.warmed.alike
      have hAl := hA0.keep all (pl.other hne hA0.1)
      have hBk := hB0.like all pl.1 fl.1 fl.2.1 fl.2.2.1
      have hlt : q + i < Bk.slots.size := by rw [fl.2.2.1]; omega
      have c3 : Steps p.tables e below (s₁.setTop (entryFrame m #[.ref b, .int (Int32.ofNat o), .ref d, .int (Int32.ofNat q), .int (Int32.ofNat len)] 7)) (Tl.setTop (mkF m 12 #[.val (.ref b), .val (.int (Int32.ofNat (o + i))), .val (.ref d), .val (.int (Int32.ofNat (q + i))), .val (.int (Int32.ofNat len)), .val (.int (Int32.ofNat i)), z] [.int (Int32.ofNat (o + i)), .ref b])) := cl.trans (by
        refine XS.iload Xl.here hexec rfl (hb hbytes d3) rfl ?_
        refine XS.iload Xl.here hexec rfl (hb hbytes d5) rfl ?_
        refine XS.icmpNo Xl.here hexec rfl (hb hbytes d7) rfl (ii_ge_f (lt32 (by omega) (by omega))) ?_
        refine XS.aloadN Xl.here hexec rfl (hb hbytes d10) rfl rfl ?_
        refine XS.iloadN Xl.here hexec rfl (hb hbytes d11) rfl ?_
        exact Steps.refl _)
      have c4 : Steps p.tables e below (s₁.setTop (entryFrame m #[.ref b, .int (Int32.ofNat o), .ref d, .int (Int32.ofNat q), .int (Int32.ofNat len)] 7)) (Tl.setTop (mkF m 13 #[.val (.ref b), .val (.int (Int32.ofNat (o + i))), .val (.ref d), .val (.int (Int32.ofNat (q + i))), .val (.int (Int32.ofNat len)), .val (.int (Int32.ofNat i)), z] [.int (cv A (o + i))])) := c3.trans (by
        refine Xl.aget hexec hAl rfl (hA.get (i := o + i) (by omega)) rfl rfl (hb hbytes d12) ?_
        exact Steps.refl _)
      have c5 : Steps p.tables e below (s₁.setTop (entryFrame m #[.ref b, .int (Int32.ofNat o), .ref d, .int (Int32.ofNat q), .int (Int32.ofNat len)] 7)) (Tl.setTop (mkF m 15 #[.val (.ref b), .val (.int (Int32.ofNat (o + i))), .val (.ref d), .val (.int (Int32.ofNat (q + i))), .val (.int (Int32.ofNat len)), .val (.int (Int32.ofNat i)), .val (.int (cv A (o + i)))] [])) := c4.trans (by
        refine XS.istoreS Xl.here hexec rfl (hb hbytes d13) rfl rfl hz ?_
        exact Steps.refl _)
      have c6 : Steps p.tables e below (s₁.setTop (entryFrame m #[.ref b, .int (Int32.ofNat o), .ref d, .int (Int32.ofNat q), .int (Int32.ofNat len)] 7)) (Tl.setTop (mkF m 31 #[.val (.ref b), .val (.int (Int32.ofNat (o + i))), .val (.ref d), .val (.int (Int32.ofNat (q + i))), .val (.int (Int32.ofNat len)), .val (.int (Int32.ofNat i)), .val (.int (cv A (o + i)))] [.int (lo8 (cv A (o + i))), .int (Int32.ofNat (q + i)), .ref d])) := c5.trans (by
        refine XS.iload Xl.here hexec rfl (hb hbytes d15) rfl ?_
        refine sipushV Xl.here hexec rfl 255 (hb hbytes d17) (by decide) ?_
        refine XS.icmpYes Xl.here hexec rfl (pc0 := 20) rfl (hb hbytes d20) rfl (ii_le_t (hp i (by omega))) (by decide) rfl ?_
        refine XS.aloadN Xl.here hexec rfl (hb hbytes d26) rfl rfl ?_
        refine XS.iloadN Xl.here hexec rfl (hb hbytes d27) rfl ?_
        refine XS.iload Xl.here hexec rfl (hb hbytes d28) rfl ?_
        refine i2b Xl.here hexec rfl (hb hbytes d30) rfl ?_
        exact Steps.refl _)
      obtain ⟨T7, X7, p7, st7⟩ := Xl.aput hexec hBk rfl hlt rfl (fits_lo8 (cv A (o + i))) (g := (mkF m 31 #[.val (.ref b), .val (.int (Int32.ofNat (o + i))), .val (.ref d), .val (.int (Int32.ofNat (q + i))), .val (.int (Int32.ofNat len)), .val (.int (Int32.ofNat i)), .val (.int (cv A (o + i)))] [.int (lo8 (cv A (o + i))), .int (Int32.ofNat (q + i)), .ref d])) rfl (rest := []) rfl (hb hbytes d31)
      have c8 : Steps p.tables e below (s₁.setTop (entryFrame m #[.ref b, .int (Int32.ofNat o), .ref d, .int (Int32.ofNat q), .int (Int32.ofNat len)] 7)) (T7.setTop (mkF m 32 #[.val (.ref b), .val (.int (Int32.ofNat (o + i))), .val (.ref d), .val (.int (Int32.ofNat (q + i))), .val (.int (Int32.ofNat len)), .val (.int (Int32.ofNat i)), .val (.int (cv A (o + i)))] [])) := c6.trans (st7 _ (Steps.refl _))
      have c9 : Steps p.tables e below (s₁.setTop (entryFrame m #[.ref b, .int (Int32.ofNat o), .ref d, .int (Int32.ofNat q), .int (Int32.ofNat len)] 7)) (T7.setTop (mkF m 3 #[.val (.ref b), .val (.int (Int32.ofNat (o + i) + 1)), .val (.ref d), .val (.int (Int32.ofNat (q + i) + 1)), .val (.int (Int32.ofNat len)), .val (.int (Int32.ofNat i + 1)), .val (.int (cv A (o + i)))] [])) := c8.trans (by
        refine iincV X7.here hexec rfl 1 (hb hbytes d32) (by decide) rfl rfl ?_
        refine iincV X7.here hexec rfl 1 (hb hbytes d35) (by decide) rfl rfl ?_
        refine iincV X7.here hexec rfl 1 (hb hbytes d38) (by decide) rfl rfl ?_
        refine XS.goto X7.here hexec rfl (pc0 := 41) rfl (hb hbytes d41) (by decide) rfl ?_
        exact Steps.refl _)
      have c10 : Steps p.tables e below (s₁.setTop (entryFrame m #[.ref b, .int (Int32.ofNat o), .ref d, .int (Int32.ofNat q), .int (Int32.ofNat len)] 7)) (T7.setTop (mkF m 3 #[.val (.ref b), .val (.int (Int32.ofNat (o + (i + 1)))), .val (.ref d), .val (.int (Int32.ofNat (q + (i + 1)))), .val (.int (Int32.ofNat len)), .val (.int (Int32.ofNat (i + 1))), .val (.int (cv A (o + i)))] [])) := by
        have := c9
        rw [succ32, succ32, succ32] at this
        exact this
      exact ih (i + 1) (by omega) _ (Or.inr ⟨_, rfl, rfl⟩) T7 _ (by rw [copyLocs_step, ← List.append_assoc]; exact X7) (pl.trans p7) (fl.step (by omega) hlt (by simp)) c10
  obtain ⟨T9, B9, z9, X9, p9, f9, g9⟩ := loop len 0 (by omega) .unset (Or.inl rfl) s₁ B (by simpa [copyLocs] using X0) ⟨hB0.1, fun _ _ => rfl, rfl⟩ (Laid.zero _ _ _) c2
  have c11 : Steps p.tables e below (s₁.setTop (entryFrame m #[.ref b, .int (Int32.ofNat o), .ref d, .int (Int32.ofNat q), .int (Int32.ofNat len)] 7)) (T9.setTop (mkF m 46 #[.val (.ref b), .val (.int (Int32.ofNat (o + len))), .val (.ref d), .val (.int (Int32.ofNat (q + len))), .val (.int (Int32.ofNat len)), .val (.int (Int32.ofNat len)), z9] [.int (Int32.ofNat len)])) := g9.trans (by
    refine XS.iload X9.here hexec rfl (hb hbytes d3) rfl ?_
    refine XS.iload X9.here hexec rfl (hb hbytes d5) rfl ?_
    refine XS.icmpYes X9.here hexec rfl (pc0 := 7) rfl (hb hbytes d7) rfl (ii_ge_t (nlt32 (by omega) (Nat.le_refl _))) (by decide) rfl ?_
    refine XS.iload X9.here hexec rfl (hb hbytes d44) rfl ?_
    exact Steps.refl _)
  exact ⟨T9, some (.int (Int32.ofNat len)), _, _, _, X9, by simp, rfl, rfl, (fun h => by cases h), ⟨rfl, B9, p9.from hh0, f9⟩, fun fs hl => c11.trans (X9.ireturnOut hexec hret rfl (Or.inl rfl) (hb hbytes d46) hl)⟩
end Cmp5
namespace Cmp3
def yN : MethodName := ⟨"java/lang/StringUTF16", "compress", "([CII)[B"⟩
abbrev yB : ByteArray := jdk_52_method_16_code
theorem d0 : decode yB 0 = .ok (.iload_n 2, 1) := by decide +kernel
theorem d1 : decode yB 1 = .ok (.newarray .byte, 2) := by decide +kernel
theorem d3 : decode yB 3 = .ok (.astore_n 3, 1) := by decide +kernel
theorem d4 : decode yB 4 = .ok (.aload_n 0, 1) := by decide +kernel
theorem d5 : decode yB 5 = .ok (.iload_n 1, 1) := by decide +kernel
theorem d6 : decode yB 6 = .ok (.aload_n 3, 1) := by decide +kernel
theorem d7 : decode yB 7 = .ok (.iconst 0, 1) := by decide +kernel
theorem d8 : decode yB 8 = .ok (.iload_n 2, 1) := by decide +kernel
theorem d9 : decode yB 9 = .ok (.invokestatic 115, 3) := by decide +kernel
theorem d12 : decode yB 12 = .ok (.istore 4, 2) := by decide +kernel
theorem d14 : decode yB 14 = .ok (.iload 4, 2) := by decide +kernel
theorem d16 : decode yB 16 = .ok (.iload_n 2, 1) := by decide +kernel
theorem d17 : decode yB 17 = .ok (.if_icmp (.eq) 40, 3) := by decide +kernel
theorem d57 : decode yB 57 = .ok (.aload_n 3, 1) := by decide +kernel
theorem d58 : decode yB 58 = .ok (.areturn, 1) := by decide +kernel
def site : List Cond := [.arrayClass .byte, Cmp5.tab] ++ staticW U16 115 Cmp5.yN
def tab : Cond := tabOf yN yB 6 (some (.array .byte)) site
def P (b : Addr) (A : Cell) (o len : Nat) (args : Array Value) (s : State) : Prop := args = #[.ref b, .int (Int32.ofNat o), .int (Int32.ofNat len)] ∧ Ch b A s ∧ o + len ≤ A.slots.size ∧ len ≤ 536870912 ∧ ∀ i, i < len → ¬ 255 < cv A (o + i)
def E (b : Addr) (A : Cell) (o len : Nat) (r : Option Value) (s u : State) : Prop := NewArr .byte "[B" len (fun j => .int (lo8 (cv A (o + j)))) r s u ∧ u.heap.size = s.heap.size + 1
/-- no char of the range above 255: a new byte[] of their low bytes -/
theorem law (l : Launch) (b : Addr) (A : Cell) (o len : Nat) : Law l yN 3 3 1 18 yB 6 (some (.array .byte)) site (P b A o len) (E b A o len) [] 1 len := by
  refine Law.of_walk (plainFor_of_name (by decide +kernel)) (by decide +kernel) (by decide +kernel) (by decide) (fun _ _ h => by rw [h.1]; rfl) (fun _ U U' hal hh h => ⟨h.1, h.2.1.mv hal hh, h.2.2⟩) (fun r U U' V V' h1 hal h2 h => ⟨NewArr.mv r U U' V V' h1 hal h2 h.1, by rw [h1, h2]; exact h.2⟩) ?_
  intro p e s m args below meth c s₁ X0 hexec hbytes hml hret hlk hnm hown hh0 W hP
  obtain ⟨rfl, hA, l1, l2, hp⟩ := hP
  have a31 := hA.1.2.2.2
  have c1 : Steps p.tables e below (s₁.setTop (entryFrame m #[.ref b, .int (Int32.ofNat o), .int (Int32.ofNat len)] 6)) (s₁.setTop (mkF m 0 #[.val (.ref b), .val (.int (Int32.ofNat o)), .val (.int (Int32.ofNat len)), .unset, .unset, .unset] [])) := entry rfl
  have c2 : Steps p.tables e below (s₁.setTop (entryFrame m #[.ref b, .int (Int32.ofNat o), .int (Int32.ofNat len)] 6)) (s₁.setTop (mkF m 1 #[.val (.ref b), .val (.int (Int32.ofNat o)), .val (.int (Int32.ofNat len)), .unset, .unset, .unset] [.int (Int32.ofNat len)])) := c1.trans (by
    refine XS.iloadN X0.here hexec rfl (hb hbytes d0) rfl ?_
    exact Steps.refl _)
  obtain ⟨T3, B3, X3, ba3, bs3, bv3, bh3, bf3, st3⟩ := X0.anew hexec (atype := .byte) (wk W (.arrayClass .byte)) rfl (by show len * 1 ≤ _; omega) (by omega) (g := (mkF m 1 #[.val (.ref b), .val (.int (Int32.ofNat o)), .val (.int (Int32.ofNat len)), .unset, .unset, .unset] [.int (Int32.ofNat len)])) rfl (hb hbytes d1) (rest := []) rfl (Nat.le_refl _) (by show 0 + len ≤ len; omega)
  rw [hh0] at ba3 st3
  have kp3 : XT.Kept s T3 := (XT.Kept.of_eq hh0).push bh3
  have hA3 := hA.keep X3.warmed.alike (kp3 _ _ hA.1.1)
  have hne : b ≠ s.heap.size := hA.1.ne
  have c4 : Steps p.tables e below (s₁.setTop (entryFrame m #[.ref b, .int (Int32.ofNat o), .int (Int32.ofNat len)] 6)) (T3.setTop (mkF m 3 #[.val (.ref b), .val (.int (Int32.ofNat o)), .val (.int (Int32.ofNat len)), .unset, .unset, .unset] [.ref s.heap.size])) := c2.trans (st3 _ (Steps.refl _))
  have c5 : Steps p.tables e below (s₁.setTop (entryFrame m #[.ref b, .int (Int32.ofNat o), .int (Int32.ofNat len)] 6)) (T3.setTop (mkF m 9 #[.val (.ref b), .val (.int (Int32.ofNat o)), .val (.int (Int32.ofNat len)), .val (.ref s.heap.size), .unset, .unset] [.int (Int32.ofNat len), .int 0, .ref s.heap.size, .int (Int32.ofNat o), .ref b])) := c4.trans (by
    refine XS.astoreN X3.here hexec rfl (hb hbytes d3) rfl rfl rfl ?_
    refine XS.aloadN X3.here hexec rfl (hb hbytes d4) rfl rfl ?_
    refine XS.iloadN X3.here hexec rfl (hb hbytes d5) rfl ?_
    refine XS.aloadN X3.here hexec rfl (hb hbytes d6) rfl rfl ?_
    refine iconstV X3.here hexec rfl 0 (hb hbytes d7) (by decide) ?_
    refine XS.iloadN X3.here hexec rfl (hb hbytes d8) rfl ?_
    exact Steps.refl _)
  obtain ⟨v6, T6, X6, E6, g6⟩ := X3.callS hexec (Cmp5.law l b A s.heap.size B3 o 0 len) hown (wks W (staticW U16 115 Cmp5.yN)) (wk W Cmp5.tab) (W := 0) (Nat.le_of_ble_eq_true rfl) (Nat.le_of_ble_eq_true rfl) (Nat.le_refl _) (by show 0 + len + 0 ≤ len; omega) (g := (mkF m 9 #[.val (.ref b), .val (.int (Int32.ofNat o)), .val (.int (Int32.ofNat len)), .val (.ref s.heap.size), .unset, .unset] [.int (Int32.ofNat len), .int (Int32.ofNat 0), .ref s.heap.size, .int (Int32.ofNat o), .ref b])) rfl (by rw [hml]; rfl) c5 (argsL := [.ref b, .int (Int32.ofNat o), .ref s.heap.size, .int (Int32.ofNat 0), .int (Int32.ofNat len)]) (rest := []) rfl rfl (by show 2 * 0 + 0 ≤ _; decide) (hb hbytes d9) (⟨rfl, hA3, ba3, hne, l1, by rw [bs3]; simp, hp⟩)
  obtain ⟨rfl, B6, p6, f6⟩ := E6
  have c7 : Steps p.tables e below (s₁.setTop (entryFrame m #[.ref b, .int (Int32.ofNat o), .int (Int32.ofNat len)] 6)) (T6.setTop (mkF m 12 #[.val (.ref b), .val (.int (Int32.ofNat o)), .val (.int (Int32.ofNat len)), .val (.ref s.heap.size), .unset, .unset] [.int (Int32.ofNat len)])) := g6
  have c8 : Steps p.tables e below (s₁.setTop (entryFrame m #[.ref b, .int (Int32.ofNat o), .int (Int32.ofNat len)] 6)) (T6.setTop (mkF m 58 #[.val (.ref b), .val (.int (Int32.ofNat o)), .val (.int (Int32.ofNat len)), .val (.ref s.heap.size), .val (.int (Int32.ofNat len)), .unset] [.ref s.heap.size])) := c7.trans (by
    refine XS.istore X6.here hexec rfl (hb hbytes d12) rfl rfl ?_
    refine XS.iload X6.here hexec rfl (hb hbytes d14) rfl ?_
    refine XS.iloadN X6.here hexec rfl (hb hbytes d16) rfl ?_
    refine XS.icmpYes X6.here hexec rfl (pc0 := 17) rfl (hb hbytes d17) rfl (ii_eq_t rfl) (by decide) rfl ?_
    refine XS.aloadN X6.here hexec rfl (hb hbytes d57) rfl rfl ?_
    exact Steps.refl _)
  have X8 := X6.wide (L' := []) (cells' := 1) (slots' := len) (fun x hx hlt => by
    simp only [List.nil_append, copyLocs, List.mem_map, List.mem_range] at hx
    obtain ⟨i, -, rfl⟩ := hx
    exact absurd hlt (Nat.lt_irrefl _)) (Nat.le_refl _) (by omega)
  exact ⟨T6, some (.ref s.heap.size), _, _, _, X8, rfl, rfl, rfl, (fun h => by cases h), ⟨⟨rfl, B6, ba3.like (X3.warmed.alike.symm.trans X6.warmed.alike) p6.1 f6.1 f6.2.1 f6.2.2.1, f6.2.1.trans bv3, by rw [X6.warmed.alike.findClass, f6.1]; exact bf3, by rw [f6.2.2.1, bs3]; simp, fun j hj => by rw [f6.2.2.2 j, if_pos (by omega)]; rfl, kp3.put p6 (Nat.le_refl _)⟩, by rw [p6.2.2, bh3, hh0]; simp⟩, fun fs hl => c8.trans (X8.areturnOut hexec rfl hret rfl (hb hbytes d58) hl)⟩
end Cmp3
namespace CodL
def yN : MethodName := ⟨"java/lang/StringUTF16", "coderFromArrayLen", "([BI)B"⟩
abbrev yB : ByteArray := jdk_52_method_15_code
theorem d0 : decode yB 0 = .ok (.iload_n 1, 1) := by decide +kernel
theorem d1 : decode yB 1 = .ok (.aload_n 0, 1) := by decide +kernel
theorem d2 : decode yB 2 = .ok (.arraylength, 1) := by decide +kernel
theorem d3 : decode yB 3 = .ok (.isub, 1) := by decide +kernel
theorem d4 : decode yB 4 = .ok (.bipush 31, 2) := by decide +kernel
theorem d6 : decode yB 6 = .ok (.iushr, 1) := by decide +kernel
theorem d7 : decode yB 7 = .ok (.i2b, 1) := by decide +kernel
theorem d8 : decode yB 8 = .ok (.ireturn, 1) := by decide +kernel
def site : List Cond := []
def tab : Cond := tabOf yN yB 2 (some .byte) site
def P (d : Addr) (B : Cell) (args : Array Value) (s : State) : Prop := args = #[.ref d, .int (Int32.ofNat B.slots.size)] ∧ Arr .byte d B s
def E (r : Option Value) (s u : State) : Prop := XT.PureE (some (.int 0)) r s u
/-- an array as long as the number of chars: LATIN1 -/
theorem law (l : Launch) (d : Addr) (B : Cell) : Law l yN 2 2 0 0 yB 2 (some .byte) site (P d B) E [] 0 0 := by
  refine Law.of_walk (plainFor_of_name (by decide +kernel)) (by decide +kernel) (by decide +kernel) (by decide) (fun _ _ h => by rw [h.1]; rfl) (fun _ U U' hal hh h => ⟨h.1, h.2.mv hal hh⟩) (fun r U U' V V' h1 hal h2 h => XT.PureE.mv r U U' V V' h1 hal h2 h) ?_
  intro p e s m args below meth c s₁ X0 hexec hbytes hml hret hlk hnm hown hh0 W hP
  obtain ⟨rfl, hB⟩ := hP
  have hB0 := hB.mv X0.warmed.alike hh0
  have c1 : Steps p.tables e below (s₁.setTop (entryFrame m #[.ref d, .int (Int32.ofNat B.slots.size)] 2)) (s₁.setTop (mkF m 0 #[.val (.ref d), .val (.int (Int32.ofNat B.slots.size))] [])) := entry rfl
  have c2 : Steps p.tables e below (s₁.setTop (entryFrame m #[.ref d, .int (Int32.ofNat B.slots.size)] 2)) (s₁.setTop (mkF m 2 #[.val (.ref d), .val (.int (Int32.ofNat B.slots.size))] [.ref d, .int (Int32.ofNat B.slots.size)])) := c1.trans (by
    refine XS.iloadN X0.here hexec rfl (hb hbytes d0) rfl ?_
    refine XS.aloadN X0.here hexec rfl (hb hbytes d1) rfl rfl ?_
    exact Steps.refl _)
  have c3 : Steps p.tables e below (s₁.setTop (entryFrame m #[.ref d, .int (Int32.ofNat B.slots.size)] 2)) (s₁.setTop (mkF m 8 #[.val (.ref d), .val (.int (Int32.ofNat B.slots.size))] [.int (lo8 (ushr (Int32.ofNat B.slots.size - Int32.ofNat B.slots.size) 31))])) := c2.trans (by
    refine X0.alen hexec hB0 rfl rfl (hb hbytes d2) ?_
    refine XS.isub X0.here hexec rfl (hb hbytes d3) rfl ?_
    refine bipushV X0.here hexec rfl 31 (hb hbytes d4) (by decide) ?_
    refine iushr X0.here hexec rfl (hb hbytes d6) rfl ?_
    refine i2b X0.here hexec rfl (hb hbytes d7) rfl ?_
    exact Steps.refl _)
  have e0 : lo8 (ushr (Int32.ofNat B.slots.size - Int32.ofNat B.slots.size) 31) = 0 := by rw [Int32.sub_self]; decide
  rw [e0] at c3
  exact ⟨s₁, some (.int 0), _, _, _, X0, rfl, rfl, rfl, (fun h => by cases h), ⟨rfl, hh0⟩, fun fs hl => c3.trans (X0.ireturnOut hexec hret rfl (Or.inr (Or.inr (Or.inl rfl))) (hb hbytes d8) hl)⟩
end CodL
/-- the String at a is Latin-1 over a new byte[] (the heap's one new cell): the low bytes of the len chars of A from o on; every cell but a is kept -/
def Got (a : Addr) (D : Cell) (fV fC : Field) (A : Cell) (o len : Nat) (r : Option Value) (s u : State) : Prop := r = none ∧ ∃ D' V : Cell, Blank "java/lang/String" a D' u ∧ Same D D' [fV.slot, fC.slot] ∧ D'.slots[fV.slot]? = some (.ref s.heap.size) ∧ D'.slots[fC.slot]? = some (.int 0) ∧ Arr .byte s.heap.size V u ∧ V.vm = .none ∧ u.vm.findClass "[B" = some V.cls ∧ V.slots.size = len ∧ (∀ j, j < len → V.slots[j]? = some (.int (lo8 (cv A (o + j))))) ∧ (∀ (y : Addr) (c : Cell), y ≠ a → s.heap[y]? = some c → u.heap[y]? = some c) ∧ u.heap.size = s.heap.size + 1
theorem Got.mv {a : Addr} {D A : Cell} {fV fC : Field} {o len : Nat} : ∀ r (U U' V V' : State), U'.heap = U.heap → V.vm.Alike V'.vm → V'.heap = V.heap → Got a D fV fC A o len r U V → Got a D fV fC A o len r U' V' :=
  fun r U U' V V' h1 hal h2 ⟨e0, D', X, a1, a2, a3, a4, a5, a6, a7, a8, a9, a10, a11⟩ => ⟨e0, D', X, a1.mv hal h2, a2, by rw [h1]; exact a3, a4, by rw [h1]; exact a5.mv hal h2, a6, by rw [hal.findClass]; exact a7, a8, a9, by rw [h1, h2]; exact a10, by rw [h1, h2]; exact a11⟩
namespace New4
def yN : MethodName := ⟨"java/lang/String", "<init>", "([CIILjava/lang/Void;)V"⟩
abbrev yB : ByteArray := jdk_42_method_149_code
theorem d0 : decode yB 0 = .ok (.aload_n 0, 1) := by decide +kernel
theorem d1 : decode yB 1 = .ok (.invokespecial 1, 3) := by decide +kernel
theorem d4 : decode yB 4 = .ok (.iload_n 3, 1) := by decide +kernel
theorem d5 : decode yB 5 = .ok (.ifCond (.ne) 22, 3) := by decide +kernel
theorem d27 : decode yB 27 = .ok (.getstatic 38, 3) := by decide +kernel
theorem d30 : decode yB 30 = .ok (.ifCond (.eq) 28, 3) := by decide +kernel
theorem d33 : decode yB 33 = .ok (.aload_n 1, 1) := by decide +kernel
theorem d34 : decode yB 34 = .ok (.iload_n 2, 1) := by decide +kernel
theorem d35 : decode yB 35 = .ok (.iload_n 3, 1) := by decide +kernel
theorem d36 : decode yB 36 = .ok (.invokestatic 177, 3) := by decide +kernel
theorem d39 : decode yB 39 = .ok (.astore 5, 2) := by decide +kernel
theorem d41 : decode yB 41 = .ok (.aload_n 0, 1) := by decide +kernel
theorem d42 : decode yB 42 = .ok (.aload 5, 2) := by decide +kernel
theorem d44 : decode yB 44 = .ok (.iload_n 3, 1) := by decide +kernel
theorem d45 : decode yB 45 = .ok (.invokestatic 47, 3) := by decide +kernel
theorem d48 : decode yB 48 = .ok (.putfield 15, 3) := by decide +kernel
theorem d51 : decode yB 51 = .ok (.aload_n 0, 1) := by decide +kernel
theorem d52 : decode yB 52 = .ok (.aload 5, 2) := by decide +kernel
theorem d54 : decode yB 54 = .ok (.putfield 9, 3) := by decide +kernel
theorem d57 : decode yB 57 = .ok (.return_, 1) := by decide +kernel
def site : List Cond := [.fieldLink "java/lang/String" 38 "java/lang/String" "COMPACT_STRINGS" "Z", Cmp3.tab, CodL.tab, .laysFinal "java/lang/String" "java/lang/String" "value" "[B", .fieldLink "java/lang/String" 9 "java/lang/String" "value" "[B", .laysFinal "java/lang/String" "java/lang/String" "coder" "B", .fieldLink "java/lang/String" 15 "java/lang/String" "coder" "B"] ++ objW "java/lang/String" 1 ++ staticW "java/lang/String" 177 Cmp3.yN ++ staticW "java/lang/String" 47 CodL.yN
def tab : Cond := tabOf yN yB 6 none site
def P (a : Addr) (D : Cell) (fV fC : Field) (b : Addr) (A : Cell) (z : Int32) (o len : Nat) (args : Array Value) (s : State) : Prop := args = #[.ref a, .ref b, .int (Int32.ofNat o), .int (Int32.ofNat len), .null] ∧ Blank "java/lang/String" a D s ∧ Found "java/lang/String" "value" "[B" fV s ∧ Found "java/lang/String" "coder" "B" fC s ∧ Ch b A s ∧ StaticIs s "java/lang/String" "COMPACT_STRINGS" "Z" (.int z) ∧ ¬ z = 0 ∧ 0 < len ∧ o + len ≤ A.slots.size ∧ len ≤ 536870912 ∧ ∀ i, i < len → ¬ 255 < cv A (o + i)
def E (a : Addr) (D : Cell) (fV fC : Field) (A : Cell) (o len : Nat) (r : Option Value) (s u : State) : Prop := Got a D fV fC A o len r s u
/-- len > 0, no char of the range above 255: a Latin-1 String of their low bytes -/
theorem law (l : Launch) (a : Addr) (D : Cell) (fV fC : Field) (b : Addr) (A : Cell) (z : Int32) (o len : Nat) : Law l yN 5 4 2 35 yB 6 none site (P a D fV fC b A z o len) (E a D fV fC A o len) [⟨a, fC.slot⟩, ⟨a, fV.slot⟩] 1 len := by
  refine Law.of_walk (plainFor_of_name (by decide +kernel)) (by decide +kernel) (by decide +kernel) (by decide) (fun _ _ h => by rw [h.1]; rfl) (fun _ U U' hal hh h => ⟨h.1, h.2.1.mv hal hh, h.2.2.1.al hal, h.2.2.2.1.al hal, h.2.2.2.2.1.mv hal hh, h.2.2.2.2.2.1.there hal hh, h.2.2.2.2.2.2⟩) (fun r U U' V V' h1 hal h2 h => Got.mv r U U' V V' h1 hal h2 h) ?_
  intro p e s m args below meth c s₁ X0 hexec hbytes hml hret hlk hnm hown hh0 W hP
  obtain ⟨rfl, hB, f1, f2, hA, s1, hz, l0, l1, l2, hp⟩ := hP
  have a31 := hA.1.2.2.2
  have c1 : Steps p.tables e below (s₁.setTop (entryFrame m #[.ref a, .ref b, .int (Int32.ofNat o), .int (Int32.ofNat len), .null] 6)) (s₁.setTop (mkF m 0 #[.val (.ref a), .val (.ref b), .val (.int (Int32.ofNat o)), .val (.int (Int32.ofNat len)), .val .null, .unset] [])) := entry rfl
  have c2 : Steps p.tables e below (s₁.setTop (entryFrame m #[.ref a, .ref b, .int (Int32.ofNat o), .int (Int32.ofNat len), .null] 6)) (s₁.setTop (mkF m 1 #[.val (.ref a), .val (.ref b), .val (.int (Int32.ofNat o)), .val (.int (Int32.ofNat len)), .val .null, .unset] [.ref a])) := c1.trans (by
    refine XS.aloadN X0.here hexec rfl (hb hbytes d0) rfl rfl ?_
    exact Steps.refl _)
  obtain ⟨T3, X3, q3, st3⟩ := X0.oinit hexec hown (wks W (objW "java/lang/String" 1)) (g := (mkF m 1 #[.val (.ref a), .val (.ref b), .val (.int (Int32.ofNat o)), .val (.int (Int32.ofNat len)), .val .null, .unset] [.ref a])) rfl (by rw [hml]; rfl) (rest := []) rfl (hb hbytes d1) (W := 0) (by show 2 * 0 + 0 ≤ _; decide) (Nat.le_of_ble_eq_true rfl) (Nat.le_of_ble_eq_true rfl)
  have hh3 := q3.trans hh0
  have c4 : Steps p.tables e below (s₁.setTop (entryFrame m #[.ref a, .ref b, .int (Int32.ofNat o), .int (Int32.ofNat len), .null] 6)) (T3.setTop (mkF m 27 #[.val (.ref a), .val (.ref b), .val (.int (Int32.ofNat o)), .val (.int (Int32.ofNat len)), .val .null, .unset] [])) := (c2.trans (st3 _ (Steps.refl _))).trans (by
    refine XS.iloadN X3.here hexec rfl (hb hbytes d4) rfl ?_
    refine XS.ifYes X3.here hexec rfl (pc0 := 5) rfl (hb hbytes d5) rfl (i0_ne_t (nz32 (by omega) l0)) (by decide) rfl ?_
    exact Steps.refl _)
  obtain ⟨T5, X5, q5, st5⟩ := X3.sget hexec hown (wk W (.fieldLink "java/lang/String" 38 "java/lang/String" "COMPACT_STRINGS" "Z")) s1 (fun _ _ h => by rw [hh3]; exact h) (g := (mkF m 27 #[.val (.ref a), .val (.ref b), .val (.int (Int32.ofNat o)), .val (.int (Int32.ofNat len)), .val .null, .unset] [])) rfl (hb hbytes d27)
  have hh5 := q5.trans hh3
  have c6 : Steps p.tables e below (s₁.setTop (entryFrame m #[.ref a, .ref b, .int (Int32.ofNat o), .int (Int32.ofNat len), .null] 6)) (T5.setTop (mkF m 30 #[.val (.ref a), .val (.ref b), .val (.int (Int32.ofNat o)), .val (.int (Int32.ofNat len)), .val .null, .unset] [.int z])) := c4.trans (st5 _ (Steps.refl _))
  have c7 : Steps p.tables e below (s₁.setTop (entryFrame m #[.ref a, .ref b, .int (Int32.ofNat o), .int (Int32.ofNat len), .null] 6)) (T5.setTop (mkF m 36 #[.val (.ref a), .val (.ref b), .val (.int (Int32.ofNat o)), .val (.int (Int32.ofNat len)), .val .null, .unset] [.int (Int32.ofNat len), .int (Int32.ofNat o), .ref b])) := c6.trans (by
    refine XS.ifNo X5.here hexec rfl (hb hbytes d30) rfl (i0_eq_f hz) ?_
    refine XS.aloadN X5.here hexec rfl (hb hbytes d33) rfl rfl ?_
    refine XS.iloadN X5.here hexec rfl (hb hbytes d34) rfl ?_
    refine XS.iloadN X5.here hexec rfl (hb hbytes d35) rfl ?_
    exact Steps.refl _)
  obtain ⟨v8, T8, X8, E8, g8⟩ := X5.callS hexec (Cmp3.law l b A o len) hown (wks W (staticW "java/lang/String" 177 Cmp3.yN)) (wk W Cmp3.tab) (W := 0) (Nat.le_of_ble_eq_true rfl) (Nat.le_of_ble_eq_true rfl) (Nat.le_refl _) (by show 0 + len ≤ len; omega) (g := (mkF m 36 #[.val (.ref a), .val (.ref b), .val (.int (Int32.ofNat o)), .val (.int (Int32.ofNat len)), .val .null, .unset] [.int (Int32.ofNat len), .int (Int32.ofNat o), .ref b])) rfl (by rw [hml]; rfl) c7 (argsL := [.ref b, .int (Int32.ofNat o), .int (Int32.ofNat len)]) (rest := []) rfl rfl (by show 2 * 0 + 0 ≤ _; decide) (hb hbytes d36) (⟨rfl, hA.mv X5.warmed.alike hh5, l1, l2, hp⟩)
  obtain ⟨e8, z8⟩ := E8
  obtain ⟨rfl, N, n1, n2, n3, n4, n5, n6⟩ := NewArr.mv _ T5 s _ _ hh5.symm (Vm.Alike.refl _) rfl e8
  rw [hh5] at z8
  have hB1 := hB.keep X8.warmed.alike (n6 _ _ hB.1)
  have hne : s.heap.size ≠ a := (Nat.ne_of_lt (Array.getElem?_eq_some_iff.mp hB.1).1).symm
  have c9 : Steps p.tables e below (s₁.setTop (entryFrame m #[.ref a, .ref b, .int (Int32.ofNat o), .int (Int32.ofNat len), .null] 6)) (T8.setTop (mkF m 39 #[.val (.ref a), .val (.ref b), .val (.int (Int32.ofNat o)), .val (.int (Int32.ofNat len)), .val .null, .unset] [.ref s.heap.size])) := g8
  have c10 : Steps p.tables e below (s₁.setTop (entryFrame m #[.ref a, .ref b, .int (Int32.ofNat o), .int (Int32.ofNat len), .null] 6)) (T8.setTop (mkF m 45 #[.val (.ref a), .val (.ref b), .val (.int (Int32.ofNat o)), .val (.int (Int32.ofNat len)), .val .null, .val (.ref s.heap.size)] [.int (Int32.ofNat N.slots.size), .ref s.heap.size, .ref a])) := by
    have hc : Steps p.tables e below (s₁.setTop (entryFrame m #[.ref a, .ref b, .int (Int32.ofNat o), .int (Int32.ofNat len), .null] 6)) (T8.setTop (mkF m 45 #[.val (.ref a), .val (.ref b), .val (.int (Int32.ofNat o)), .val (.int (Int32.ofNat len)), .val .null, .val (.ref s.heap.size)] [.int (Int32.ofNat len), .ref s.heap.size, .ref a])) := c9.trans (by
      refine XS.astore X8.here hexec rfl (hb hbytes d39) rfl rfl rfl ?_
      refine XS.aloadN X8.here hexec rfl (hb hbytes d41) rfl rfl ?_
      refine XS.aload X8.here hexec rfl (hb hbytes d42) rfl rfl ?_
      refine XS.iloadN X8.here hexec rfl (hb hbytes d44) rfl ?_
      exact Steps.refl _)
    rw [n4]; exact hc
  obtain ⟨v11, T11, X11, E11, g11⟩ := X8.callS hexec (CodL.law l s.heap.size N) hown (wks W (staticW "java/lang/String" 47 CodL.yN)) (wk W CodL.tab) (W := 1) (Nat.le_of_ble_eq_true rfl) (Nat.le_of_ble_eq_true rfl) (Nat.le_refl _) (by show 0 + len + 0 ≤ len; omega) (g := (mkF m 45 #[.val (.ref a), .val (.ref b), .val (.int (Int32.ofNat o)), .val (.int (Int32.ofNat len)), .val .null, .val (.ref s.heap.size)] [.int (Int32.ofNat N.slots.size), .ref s.heap.size, .ref a])) rfl (by rw [hml]; rfl) c10 (argsL := [.ref s.heap.size, .int (Int32.ofNat N.slots.size)]) (rest := [.ref a]) rfl rfl (by show 2 * 0 + (1 + 0) ≤ _; decide) (hb hbytes d45) (⟨rfl, n1⟩)
  obtain ⟨rfl, q11⟩ := E11
  have hB11 := hB1.mv (X8.warmed.alike.symm.trans X11.warmed.alike) q11
  have c12 : Steps p.tables e below (s₁.setTop (entryFrame m #[.ref a, .ref b, .int (Int32.ofNat o), .int (Int32.ofNat len), .null] 6)) (T11.setTop (mkF m 48 #[.val (.ref a), .val (.ref b), .val (.int (Int32.ofNat o)), .val (.int (Int32.ofNat len)), .val .null, .val (.ref s.heap.size)] [.int 0, .ref a])) := g11
  obtain ⟨T13, X13, p13, bl13, sl13, st13⟩ := X11.finit hexec hown (wk W (.fieldLink "java/lang/String" 15 "java/lang/String" "coder" "B")) (Or.inr ⟨_, (wk W (.laysFinal "java/lang/String" "java/lang/String" "coder" "B"))⟩) (Or.inl ⟨rfl, hnm⟩) f2 (Or.inl rfl) hB11 (t := .byte) (by decide +kernel) rfl (g := (mkF m 48 #[.val (.ref a), .val (.ref b), .val (.int (Int32.ofNat o)), .val (.int (Int32.ofNat len)), .val .null, .val (.ref s.heap.size)] [.int 0, .ref a])) rfl (rest := []) rfl (hb hbytes d48)
  have c14 : Steps p.tables e below (s₁.setTop (entryFrame m #[.ref a, .ref b, .int (Int32.ofNat o), .int (Int32.ofNat len), .null] 6)) (T13.setTop (mkF m 54 #[.val (.ref a), .val (.ref b), .val (.int (Int32.ofNat o)), .val (.int (Int32.ofNat len)), .val .null, .val (.ref s.heap.size)] [.ref s.heap.size, .ref a])) := (c12.trans (st13 _ (Steps.refl _))).trans (by
    refine XS.aloadN X13.here hexec rfl (hb hbytes d51) rfl rfl ?_
    refine XS.aload X13.here hexec rfl (hb hbytes d52) rfl rfl ?_
    exact Steps.refl _)
  obtain ⟨T15, X15, p15, bl15, sl15, st15⟩ := X13.finit hexec hown (wk W (.fieldLink "java/lang/String" 9 "java/lang/String" "value" "[B")) (Or.inr ⟨_, (wk W (.laysFinal "java/lang/String" "java/lang/String" "value" "[B"))⟩) (Or.inl ⟨rfl, hnm⟩) f1 (Or.inl rfl) bl13 (t := (.array .byte)) (by decide +kernel) rfl (g := (mkF m 54 #[.val (.ref a), .val (.ref b), .val (.int (Int32.ofNat o)), .val (.int (Int32.ofNat len)), .val .null, .val (.ref s.heap.size)] [.ref s.heap.size, .ref a])) rfl (rest := []) rfl (hb hbytes d54)
  have c16 : Steps p.tables e below (s₁.setTop (entryFrame m #[.ref a, .ref b, .int (Int32.ofNat o), .int (Int32.ofNat len), .null] 6)) (T15.setTop (mkF m 57 #[.val (.ref a), .val (.ref b), .val (.int (Int32.ofNat o)), .val (.int (Int32.ofNat len)), .val .null, .val (.ref s.heap.size)] [])) := c14.trans (st15 _ (Steps.refl _))
  have ap := apart (Or.inr ⟨_, (wk W (.laysFinal "java/lang/String" "java/lang/String" "value" "[B"))⟩) (Or.inr ⟨_, (wk W (.laysFinal "java/lang/String" "java/lang/String" "coder" "B"))⟩) f1 f2 (t₁ := .array .byte) (t₂ := .byte) (by decide +kernel) (by decide +kernel) (by decide)
  have al := X8.warmed.alike.symm.trans X15.warmed.alike
  have n7 : T11.heap[s.heap.size]? = some N := by rw [q11]; exact n1.1
  exact ⟨T15, none, _, _, _, X15, by simp, rfl, by omega, (fun _ => rfl), ⟨rfl, _, N, bl15, ((Same.refl D _).set _ (by simp)).set _ (by simp), sl15, (Cell.slots_setSlot_ne _ ap).trans sl13, n1.keep al (p15.other hne (p13.other hne n7)), n2, by rw [al.findClass]; exact n3, n4, n5, fun y c h1 h2 => p15.other h1 (p13.other h1 (by rw [q11]; exact n6 y c h2)), by rw [p15.2.2, p13.2.2, q11]; exact z8⟩, fun fs hl => c16.trans (X15.returnOut hexec hret (hb hbytes d57) hl)⟩
end New4
namespace New1
def yN : MethodName := ⟨"java/lang/String", "<init>", "([C)V"⟩
abbrev yB : ByteArray := jdk_42_method_3_code
theorem d0 : decode yB 0 = .ok (.aload_n 0, 1) := by decide +kernel
theorem d1 : decode yB 1 = .ok (.aload_n 1, 1) := by decide +kernel
theorem d2 : decode yB 2 = .ok (.iconst 0, 1) := by decide +kernel
theorem d3 : decode yB 3 = .ok (.aload_n 1, 1) := by decide +kernel
theorem d4 : decode yB 4 = .ok (.arraylength, 1) := by decide +kernel
theorem d5 : decode yB 5 = .ok (.aconst_null, 1) := by decide +kernel
theorem d6 : decode yB 6 = .ok (.invokespecial 27, 3) := by decide +kernel
theorem d9 : decode yB 9 = .ok (.return_, 1) := by decide +kernel
def site : List Cond := [New4.tab] ++ initW "java/lang/String" 27 New4.yN
def tab : Cond := tabOf yN yB 2 none site
def P (a : Addr) (D : Cell) (fV fC : Field) (b : Addr) (A : Cell) (z : Int32) (args : Array Value) (s : State) : Prop := args = #[.ref a, .ref b] ∧ Blank "java/lang/String" a D s ∧ Found "java/lang/String" "value" "[B" fV s ∧ Found "java/lang/String" "coder" "B" fC s ∧ Ch b A s ∧ StaticIs s "java/lang/String" "COMPACT_STRINGS" "Z" (.int z) ∧ ¬ z = 0 ∧ 0 < A.slots.size ∧ A.slots.size ≤ 536870912 ∧ ∀ i, i < A.slots.size → ¬ 255 < cv A i
def E (a : Addr) (D : Cell) (fV fC : Field) (A : Cell) (r : Option Value) (s u : State) : Prop := Got a D fV fC A 0 A.slots.size r s u
/-- new String(chars), not empty, no char above 255: a Latin-1 String of their low bytes -/
theorem law (l : Launch) (a : Addr) (D : Cell) (fV fC : Field) (b : Addr) (A : Cell) (z : Int32) : Law l yN 2 1 3 52 yB 2 none site (P a D fV fC b A z) (E a D fV fC A) [⟨a, fC.slot⟩, ⟨a, fV.slot⟩] 1 A.slots.size := by
  refine Law.of_walk (plainFor_of_name (by decide +kernel)) (by decide +kernel) (by decide +kernel) (by decide) (fun _ _ h => by rw [h.1]; rfl) (fun _ U U' hal hh h => ⟨h.1, h.2.1.mv hal hh, h.2.2.1.al hal, h.2.2.2.1.al hal, h.2.2.2.2.1.mv hal hh, h.2.2.2.2.2.1.there hal hh, h.2.2.2.2.2.2⟩) (fun r U U' V V' h1 hal h2 h => Got.mv r U U' V V' h1 hal h2 h) ?_
  intro p e s m args below meth c s₁ X0 hexec hbytes hml hret hlk hnm hown hh0 W hP
  obtain ⟨rfl, hB, f1, f2, hA, s1, hz, l0, l2, hp⟩ := hP
  have c1 : Steps p.tables e below (s₁.setTop (entryFrame m #[.ref a, .ref b] 2)) (s₁.setTop (mkF m 0 #[.val (.ref a), .val (.ref b)] [])) := entry rfl
  have c2 : Steps p.tables e below (s₁.setTop (entryFrame m #[.ref a, .ref b] 2)) (s₁.setTop (mkF m 6 #[.val (.ref a), .val (.ref b)] [.null, .int (Int32.ofNat A.slots.size), .int 0, .ref b, .ref a])) := c1.trans (by
    refine XS.aloadN X0.here hexec rfl (hb hbytes d0) rfl rfl ?_
    refine XS.aloadN X0.here hexec rfl (hb hbytes d1) rfl rfl ?_
    refine iconstV X0.here hexec rfl 0 (hb hbytes d2) (by decide) ?_
    refine XS.aloadN X0.here hexec rfl (hb hbytes d3) rfl rfl ?_
    refine X0.alen hexec (hA.1.mv X0.warmed.alike hh0) rfl rfl (hb hbytes d4) ?_
    refine XS.aconstNull X0.here hexec rfl (hb hbytes d5) ?_
    exact Steps.refl _)
  obtain ⟨v3, T3, X3, E3, g3⟩ := X0.callN hexec (New4.law l a D fV fC b A z 0 A.slots.size) rfl hown (wks W (initW "java/lang/String" 27 New4.yN)) (W New4.tab (by simp only [site, List.mem_cons, List.mem_append, true_or, or_true])) (W := 0) (Nat.le_of_ble_eq_true rfl) (Nat.le_of_ble_eq_true rfl) (Nat.le_refl _) (by show 0 + A.slots.size ≤ A.slots.size; omega) (g := (mkF m 6 #[.val (.ref a), .val (.ref b)] [.null, .int (Int32.ofNat A.slots.size), .int (Int32.ofNat 0), .ref b, .ref a])) rfl (by rw [hml]; rfl) c2 (argsL := [.ref b, .int (Int32.ofNat 0), .int (Int32.ofNat A.slots.size), .null]) (rest := []) rfl rfl (by show 2 * 0 + 0 ≤ _; decide) (hb hbytes d6) (⟨rfl, hB.mv X0.warmed.alike hh0, f1.al X0.warmed.alike, f2.al X0.warmed.alike, hA.mv X0.warmed.alike hh0, s1.there X0.warmed.alike hh0, hz, l0, by omega, l2, fun i hi => by rw [Nat.zero_add]; exact hp i hi⟩)
  have e0 := Got.mv _ s₁ s _ _ hh0.symm (Vm.Alike.refl _) rfl E3
  obtain rfl := e0.1
  have c4 : Steps p.tables e below (s₁.setTop (entryFrame m #[.ref a, .ref b] 2)) (T3.setTop (mkF m 9 #[.val (.ref a), .val (.ref b)] [])) := g3
  exact ⟨T3, none, _, _, _, X3, by simp, rfl, by omega, (fun _ => rfl), e0, fun fs hl => c4.trans (X3.returnOut hexec hret (hb hbytes d9) hl)⟩
theorem pays {l : Launch} {R : Room} {p : Program} {e : Env} {below : List Frame} {s : State} {sargs : Array Value} {len W : Nat} (a : Addr) (D : Cell) (fV fC : Field) (b : Addr) (A : Cell) (z : Int32) (htab : tab.before sargs s = true) (hfr : 4 ≤ R.frames) (hlo : W + 65 ≤ R.locals) :
    Back l R p e below s sargs yN len W (fun A₁ a₁ => A₁.cells + 1 ≤ R.cells ∧ A₁.slots + A.slots.size ≤ R.slots ∧ P a D fV fC b A z a₁ A₁.U) (fun A₁ _ v₁ B₁ => E a D fV fC A v₁ A₁.U B₁.U ∧ B₁.locs = A₁.locs ++ [⟨a, fC.slot⟩, ⟨a, fV.slot⟩] ∧ B₁.cells = A₁.cells + 1 ∧ B₁.slots = A₁.slots + A.slots.size) :=
  (law l a D fV fC b A z).pays htab hfr (by omega)
end New1
/-- the byte, read back as charAt reads it, is the char -/
theorem lo8_mask {x : Int32} (h0 : ¬ x < 0) (h1 : ¬ 255 < x) : lo8 x &&& 255 = x := by
  have t : ∀ k : Fin 256, lo8 (Int32.ofNat k.val) &&& 255 = Int32.ofNat k.val := by decide +kernel
  rw [Int32.lt_iff_toInt_lt] at h0 h1
  have e0 : (0 : Int32).toInt = 0 := rfl
  have e1 : (255 : Int32).toInt = 255 := rfl
  obtain ⟨k, hk⟩ : ∃ k : Nat, x.toInt = k := ⟨x.toInt.toNat, by omega⟩
  have hx : x = Int32.ofNat k := Int32.toInt_inj.mp (by rw [hk, Int32.toInt_ofNat_small (by omega)])
  rw [hx]
  exact t ⟨k, by omega⟩
end StrChars
namespace StrChars.Road
open Jvm Sem ClassFile Op Lib Jvm.Stand Jvm.Free Jvm.Free.XT
open Jvm.Lib.Cold (StaticIs)
abbrev ST : String := "java/lang/String"
/-- every table word that New1's law asks, flat -/
abbrev words : List Jvm.Cond := [.code New1.yN New1.yB 2 none, .initialized ST, .methodLink ST 27 New4.yN, .instanceMethod New4.yN,
  .code New4.yN New4.yB 6 none, .fieldLink ST 38 ST "COMPACT_STRINGS" "Z", .laysFinal ST ST "value" "[B", .fieldLink ST 9 ST "value" "[B", .laysFinal ST ST "coder" "B", .fieldLink ST 15 ST "coder" "B",
  .methodLink ST 1 Lib.objectInit, .instanceMethod Lib.objectInit, .code Lib.objectInit ⟨#[0xb1]⟩ 1 none, .methodLink ST 177 Cmp3.yN, .static Cmp3.yN, .methodLink ST 47 CodL.yN, .static CodL.yN,
  .code Cmp3.yN Cmp3.yB 6 (some (.array .byte)), .initialized U16, .arrayClass .byte, .methodLink U16 115 Cmp5.yN, .static Cmp5.yN, .code Cmp5.yN Cmp5.yB 7 (some .int), .code CodL.yN CodL.yB 2 (some .byte)]
theorem tab_of {a : Array Value} {s : State} (h : ∀ w ∈ words, w.before a s = true) : New1.tab.before a s = true := by
  have h5 : Cmp5.tab.before a s = true := unparts (wk h (.code Cmp5.yN Cmp5.yB 7 (some .int))) (wks h (.initialized Cmp5.yN.cls :: Cmp5.site))
  have hc : CodL.tab.before a s = true := unparts (wk h (.code CodL.yN CodL.yB 2 (some .byte))) (wks h (.initialized CodL.yN.cls :: CodL.site))
  have q5 : ∀ w ∈ Cmp5.tab :: words, w.before a s = true := fun w hw => (List.mem_cons.mp hw).elim (fun e => e ▸ h5) (h w)
  have h3 : Cmp3.tab.before a s = true := unparts (wk q5 (.code Cmp3.yN Cmp3.yB 6 (some (.array .byte)))) (wks q5 (.initialized Cmp3.yN.cls :: Cmp3.site))
  have q3 : ∀ w ∈ Cmp3.tab :: CodL.tab :: words, w.before a s = true := fun w hw => (List.mem_cons.mp hw).elim (fun e => e ▸ h3) fun hw => (List.mem_cons.mp hw).elim (fun e => e ▸ hc) (h w)
  have h4 : New4.tab.before a s = true := unparts (wk q3 (.code New4.yN New4.yB 6 none)) (wks q3 (.initialized New4.yN.cls :: New4.site))
  have q4 : ∀ w ∈ New4.tab :: words, w.before a s = true := fun w hw => (List.mem_cons.mp hw).elim (fun e => e ▸ h4) (h w)
  exact unparts (wk q4 (.code New1.yN New1.yB 2 none)) (wks q4 (.initialized New1.yN.cls :: New1.site))
/-- the words ride from the start Z to the walk's own state -/
theorem moved {Z s : State} {a0 args : Array Value} (hZ : Z.Warmed39 s.vm) (hw : ∀ d ∈ words, d.before a0 Z = true) : ∀ d ∈ words, d.before args s = true := fun d hd => by
  have q := hw d hd
  have t : ∀ d ∈ words, d = .arrayClass .byte ∨ (d.onTables && d.keepsFace) = true := by decide +kernel
  rcases t d hd with rfl | t
  · exact RoadKit.mvA hZ q
  · exact RoadKit.mv hZ q t
/-- WHAT COMES BACK, over the tables of the start Z: h the heap at the call, h' behind it -/
def Q (Z : State) (x : Addr) (A : Cell) (h : Heap) (v : Option Value) (h' : Heap) (L : List Loc) : Prop := v = none ∧ (∀ y ∈ L, y.base = x) ∧ RoadKit.Keep h h' [x] ∧ h'.size = h.size + 1 ∧ RoadKit.Exa Z h' x ST ∧ RoadKit.Fld Z h' x ST "value" "[B" (.ref h.size) ∧ RoadKit.Fld Z h' x ST "coder" "B" (.int 0) ∧
  (∃ V : Cell, RoadKit.Arr Z h' h.size V .byte ∧ V.vm = .none ∧ Z.vm.findClass "[B" = some V.cls ∧ V.slots.size = A.slots.size ∧ ∀ j, j < A.slots.size → V.slots[j]? = some (.int (lo8 (cv A j)))) ∧
  ∀ (O n d : String) (w : Value), RoadKit.Fld Z h x O n d w → RoadKit.slotOf Z O n d ≠ RoadKit.slotOf Z ST "value" "[B" → RoadKit.slotOf Z O n d ≠ RoadKit.slotOf Z ST "coder" "B" → RoadKit.Fld Z h' x O n d w
/-- **new String(chars) AT A CALL, IN THE ROAD'S FORM**: for specialBack behind newO: x the fresh String, b the char[] with the cell A -/
theorem back {p : Program} {l : Launch} {e : Env} {R : Room} {s : State} {args : Array Value} {below : List Frame} {len W : Nat} {Z : State} {a0 : Array Value} {h : Heap} (hZ : Z.Warmed39 s.vm) (hw : ∀ d ∈ words, d.before a0 Z = true) {kI : Nat} (wi : (Jvm.Cond.instantiable ST kI).before a0 Z = true)
    {x b : Addr} {A : Cell} {z : Int32} {v0 c0 : Value} (E : RoadKit.Exa Z h x ST) (V : RoadKit.Fld Z h x ST "value" "[B" v0) (C : RoadKit.Fld Z h x ST "coder" "B" c0) (K : RoadKit.Arr Z h b A .char) (hty : Typed .char A) (S : RoadKit.Sta Z h ST "COMPACT_STRINGS" "Z" (.int z)) (hz : ¬ z = 0)
    (l0 : 0 < A.slots.size) (l2 : A.slots.size ≤ 536870912) (hp : ∀ i, i < A.slots.size → ¬ 255 < cv A i) (hfr : 4 ≤ R.frames) (hlo : W + 65 ≤ R.locals) :
    Back l R p e below s args New1.yN len W (fun P a => a = #[.ref x, .ref b] ∧ P.U.heap = h ∧ P.cells + 1 ≤ R.cells ∧ P.slots + A.slots.size ≤ R.slots)
      (fun P _ v B => ∃ L, Q Z x A h v B.U.heap L ∧ B.locs = P.locs ++ L ∧ B.cells = P.cells + 1 ∧ B.slots = P.slots + A.slots.size) := by
  intro m meth c P g ig mk a X hg hsize hdg hW hn hp'
  obtain ⟨rfl, rfl, r1, r2⟩ := hp'
  have al : Z.vm.Alike P.U.vm := hZ.alike.trans X.warmed.alike
  obtain ⟨D, cfV, kV, iV, fV, hD, gV, stV, knV, obV, asV, slV⟩ := id V
  obtain ⟨D', cfC, kC, iC, fC, hD', gC, stC, -, -, asC, slC⟩ := id C
  cases hD.symm.trans hD'
  obtain ⟨D2, kD, e1, e2, e3, e4, e5⟩ := id E
  cases hD.symm.trans e1
  obtain ⟨c2, k2, i1, i2, i3, -⟩ := Cond.instantiable_spec wi
  cases e2.symm.trans i1
  cases e3.symm.trans i2
  obtain ⟨kU, u1, u2⟩ := al.2.2 _ _ e3
  have hB : Blank ST x D P.U := ⟨hD, ⟨knV, fun q hq => by rw [hq] at obV; cases obV⟩, by rw [al.findClass]; exact e2, kU, u1, by rw [u2]; exact i3, by rw [u2]; exact e5 i3⟩
  have F1 : Found ST "value" "[B" fV P.U := ⟨SBG.found_only al ⟨cfV, kV, iV, gV⟩, stV⟩
  have F2 : Found ST "coder" "B" fC P.U := ⟨SBG.found_only al ⟨cfC, kC, iC, gC⟩, stC⟩
  have hA : Ch b A P.U := ⟨⟨K.1, State.isArrayOf_alike al K.2.1, K.2.2, by omega⟩, hty⟩
  have hS : StaticIs P.U ST "COMPACT_STRINGS" "Z" (.int z) := by
    obtain ⟨cfS, iS, kS, fS, st, cS, t1, t2, t3, t4, t5, t6, t7⟩ := S
    exact StaticIs.there (s := { Z with heap := P.U.heap }) ⟨cfS, iS, kS, fS, st, cS, t1, t2, t3, t4, t5, (fun q => by rw [q] at t6; cases t6), t7⟩ al rfl
  obtain ⟨v, B, X', ⟨⟨hv, E', V', q1, q2, q3, q4, q5, q6, q7, q8, q9, q10, q11⟩, hl, hc, hs⟩, st⟩ := New1.pays x D fV fC b A z (tab_of (moved hZ hw)) hfr hlo m meth c P g ig mk _ X hg hsize hdg hW hn ⟨r1, r2, rfl, hB, F1, F2, hA, hS, hz, l0, l2, hp⟩
  have al' : Z.vm.Alike B.U.vm := hZ.alike.trans X'.warmed.alike
  have hsz : E'.slots.size = D.slots.size := by
    obtain ⟨-, -, -, kB, w1, w2, w3⟩ := q1
    obtain ⟨kB', y1, y2⟩ := al'.2.2 _ _ e3
    rw [q2.2.1] at w1
    cases w1.symm.trans y1
    rw [w3, e5 i3, y2]
  refine ⟨v, B, X', ⟨_, ⟨hv, ?_, ⟨by omega, fun y cy hy hn' => q10 y cy (by simpa using hn') hy, fun y cy hy => ?_⟩, q11, ⟨E', _, q1.1, by rw [q2.2.1]; exact e2, by rw [q2.2.1]; exact e3, by rw [q2.1]; exact obV, fun _ => by rw [hsz]; exact e5 i3⟩,
    ⟨E', cfV, kV, iV, fV, q1.1, gV, stV, by rw [q2.1]; exact knV, by rw [q2.1]; exact obV, by rw [q2.2.1]; exact asV, q3⟩, ⟨E', cfC, kC, iC, fC, q1.1, gC, stC, by rw [q2.1]; exact knV, by rw [q2.1]; exact obV, by rw [q2.2.1]; exact asC, q4⟩,
    ⟨V', ⟨q5.1, State.isArrayOf_alike al'.symm q5.2.1, q5.2.2.1⟩, q6, by rw [← al'.findClass]; exact q7, q8, fun j hj => by have := q9 j hj; rwa [Nat.zero_add] at this⟩, fun O n d w F n1 n2 => ?_⟩, hl, hc, hs⟩, st⟩
  · intro y hy
    simp only [List.mem_cons, List.not_mem_nil, or_false] at hy
    rcases hy with rfl | rfl <;> rfl
  · by_cases q : y = x
    · subst q
      cases hD.symm.trans hy
      exact ⟨E', q1.1, q2.2.1, q2.1, hsz⟩
    · exact ⟨cy, q10 y cy q hy, rfl, rfl, rfl⟩
  · obtain ⟨D3, cf, k, i, f, g1, g2, g3, g4, g5, g6, g7⟩ := F
    cases hD.symm.trans g1
    simp only [RoadKit.slotOf, g2, gV, gC, Option.map_some, Option.getD_some] at n1 n2
    exact ⟨E', cf, k, i, f, q1.1, g2, g3, by rw [q2.1]; exact g4, by rw [q2.1]; exact g5, by rw [q2.2.1]; exact g6, by rw [q2.2.2 f.slot (by simp [n1, n2])]; exact g7⟩
end StrChars.Road
namespace StrChars.Road
open Jvm Sem ClassFile Op Lib Jvm.Stand Jvm.Free Jvm.Free.XT
/-- WHAT COMES BACK, the byte[] as a list of values -/
def QA (Z : State) (x : Addr) (zn : Int32) (cs : List Int32) (h : Heap) (v : Option Value) (h' : Heap) (L : List Loc) : Prop := v = none ∧ (∀ y ∈ L, y.base = x) ∧ RoadKit.Keep h h' [x] ∧ h'.size = h.size + 1 ∧ RoadKit.Exa Z h' x ST ∧ RoadKit.Fld Z h' x ST "value" "[B" (.ref h.size) ∧ RoadKit.Fld Z h' x ST "coder" "B" (.int 0) ∧
  (∃ kb, Z.vm.findClass "[B" = some kb ∧ RoadKit.Arv Z h' h.size kb .byte zn (cs.map fun c => .int (lo8 c)) (.int 0)) ∧
  ∀ (O n d : String) (w : Value), RoadKit.Fld Z h x O n d w → RoadKit.slotOf Z O n d ≠ RoadKit.slotOf Z ST "value" "[B" → RoadKit.slotOf Z O n d ≠ RoadKit.slotOf Z ST "coder" "B" → RoadKit.Fld Z h' x O n d w
/-- **new String(chars) AT A CALL, THE ARRAYS AS LISTS**: the char[] at b holds cs, not empty, no char above 255 -/
theorem backArv {p : Program} {l : Launch} {e : Env} {R : Room} {s : State} {args : Array Value} {below : List Frame} {len W : Nat} {Z : State} {a0 : Array Value} {h : Heap} (hZ : Z.Warmed39 s.vm) (hw : ∀ d ∈ words, d.before a0 Z = true) {kI : Nat} (wi : (Jvm.Cond.instantiable ST kI).before a0 Z = true)
    {x b : Addr} {k : ClassId} {zn z : Int32} {cs : List Int32} {dv v0 c0 : Value} (E : RoadKit.Exa Z h x ST) (V : RoadKit.Fld Z h x ST "value" "[B" v0) (C : RoadKit.Fld Z h x ST "coder" "B" c0) (K : RoadKit.Arv Z h b k .char zn (cs.map Value.int) dv) (S : RoadKit.Sta Z h ST "COMPACT_STRINGS" "Z" (.int z)) (hz : ¬ z = 0)
    (hlen : zn.toNatClampNeg = cs.length) (h0 : 0 < cs.length) (hbig : cs.length ≤ 536870912) (hall : ∀ c ∈ cs, ¬ 255 < c) (hfr : 4 ≤ R.frames) (hlo : W + 65 ≤ R.locals) :
    Back l R p e below s args New1.yN len W (fun P a => a = #[.ref x, .ref b] ∧ P.U.heap = h ∧ P.cells + 1 ≤ R.cells ∧ P.slots + cs.length ≤ R.slots)
      (fun P _ v B => ∃ L, QA Z x zn cs h v B.U.heap L ∧ B.locs = P.locs ++ L ∧ B.cells = P.cells + 1 ∧ B.slots = P.slots + cs.length) := by
  obtain ⟨A, K1, K2, K3, K4, K5, K6⟩ := K
  have e : A.slots.size = cs.length := K3.trans hlen
  have hat : ∀ (i : Nat) (hi : i < cs.length), A.slots[i]? = some (.int cs[i]) := fun i hi => by rw [K5 i (by omega)]; simp [List.getD_eq_getElem?_getD, hi]
  have hcv : ∀ (i : Nat) (hi : i < cs.length), cv A i = cs[i] := fun i hi => by unfold cv; rw [hat i hi]
  have hty : Typed .char A := fun i v hv => by
    have hi : i < A.slots.size := (Array.getElem?_eq_some_iff.mp hv).1
    have q := K5 i hi
    rw [hv] at q
    rw [Option.some.inj q]
    exact K6 i hi
  refine Back.mono (back hZ hw wi E V C K1 hty S hz (by omega) (by omega) (fun i hi => by rw [hcv i (by omega)]; exact hall _ (List.getElem_mem _)) hfr hlo) (fun P a hp => ⟨hp.1, hp.2.1, hp.2.2.1, by rw [e]; exact hp.2.2.2⟩) (fun P a v B hp hq => ?_)
  obtain ⟨L, ⟨q1, q2, q3, q4, q5, q6, q7, ⟨V', v1, v2, v3, v4, v5⟩, q9⟩, hl, hc, hs⟩ := hq
  refine ⟨L, ⟨q1, q2, q3, q4, q5, q6, q7, ⟨V'.cls, v3, V', v1, rfl, by rw [v4, e, hlen], K4, fun i hi => ?_, fun i hi => ?_⟩, q9⟩, hl, hc, by rw [hs, e]⟩
  · have hi' : i < cs.length := by omega
    rw [v5 i (by omega), hcv i hi']; simp [List.getD_eq_getElem?_getD, hi']
  · have hi' : i < cs.length := by omega
    simp only [List.getD_eq_getElem?_getD, List.getElem?_map, List.getElem?_eq_getElem hi', Option.map_some, Option.getD_some]
    exact fits_lo8 _
end StrChars.Road
namespace StrChars.Road
open Jvm Sem ClassFile Op Lib Jvm.Stand Jvm.Free Jvm.Free.XT
/-- WHAT COMES BACK, in the writer's own shape -/
def QV (Z : State) (x : Addr) (N : Int32) (bs : List Int32) (h : Heap) (n0 : Nat) (v : Option Value) (h' : Heap) (L : List Loc) : Prop := v = none ∧ RoadKit.Fr n0 L ∧ RoadKit.Keep h h' [x] ∧ RoadKit.Exa Z h' x ST ∧ RoadKit.Fld Z h' x ST "coder" "B" (.int 0) ∧
  ∃ (t : Addr) (kb : ClassId), n0 ≤ t ∧ h.size ≤ t ∧ ¬ t = x ∧ RoadKit.Fld Z h' x ST "value" "[B" (.ref t) ∧ RoadKit.Arv Z h' t kb .byte N (bs.map Value.int) (.int 0)
/-- **new String(chars) AT A CALL, FOR THE WRITER**: a char[] of n known ints, each 0 to 255 -/
theorem backV {p : Program} {l : Launch} {e : Env} {R : Room} {s : State} {args : Array Value} {below : List Frame} {len W : Nat} {Z : State} {a0 : Array Value} {h : Heap} (hZ : Z.Warmed39 s.vm) (hw : ∀ d ∈ words, d.before a0 Z = true) {kI : Nat} (wi : (Jvm.Cond.instantiable ST kI).before a0 Z = true)
    {x b : Addr} {kC : ClassId} {cs bs : List Int32} {d v0 c0 : Value} {z N : Int32} {n n0 : Nat} (hx0 : n0 ≤ x) (hh0 : n0 ≤ h.size) (E : RoadKit.Exa Z h x ST) (V : RoadKit.Fld Z h x ST "value" "[B" v0) (C : RoadKit.Fld Z h x ST "coder" "B" c0) (K : RoadKit.Arv Z h b kC .char N (cs.map Value.int) d) (S : RoadKit.Sta Z h ST "COMPACT_STRINGS" "Z" (.int z)) (hz : ¬ z = 0)
    (hn : cs.length = n) (hN : N = Int32.ofNat n) (l0 : 0 < n) (l2 : n ≤ 4000) (hp : ∀ c ∈ cs, ¬ c < 0 ∧ ¬ (255 : Int32) < c) (hb : bs = cs.map (fun c => c.toInt8.toInt32)) (hfr : 4 ≤ R.frames) (hlo : W + 65 ≤ R.locals) :
    Back l R p e below s args (⟨"java/lang/String", "<init>", "([C)V"⟩ : MethodName) len W (fun P a => a = #[.ref x, .ref b] ∧ P.U.heap = h ∧ P.cells + 1 ≤ R.cells ∧ P.slots + n ≤ R.slots)
      (fun P _ v B => ∃ L, QV Z x N bs h n0 v B.U.heap L ∧ B.locs = P.locs ++ L ∧ B.cells = P.cells + 1 ∧ B.slots = P.slots + n) := by
  subst hn hN hb
  refine Back.mono (backArv hZ hw wi E V C K S hz (n32 (by omega)) l0 (by omega) (fun c hc => (hp c hc).2) hfr hlo) (fun P a hp => hp) (fun P a v B hp hq => ?_)
  obtain ⟨L, ⟨q1, q2, q3, q4, q5, q6, q7, ⟨kb, v1, v2⟩, q9⟩, hl, hc, hs⟩ := hq
  exact ⟨L, ⟨q1, fun y hy => by rw [q2 y hy]; exact hx0, q3, q5, q7, h.size, kb, hh0, Nat.le_refl _, Nat.ne_of_gt E.lt, q6, by rw [List.map_map]; exact v2⟩, hl, hc, hs⟩
end StrChars.Road
namespace StrChars
open Jvm Sem ClassFile Op Lib Jvm.Stand Jvm.Free.XT Jvm.Free.ALB Jvm.Free.JM Jvm.Free
open Jvm.Lib.Cold (StaticIs)
def hi8 (x : Int32) : Int32 := lo8 (x >>> ((8 : Int32) &&& 31))
/-- what StringUTF16.getChar makes of two bytes -/
def pairCh (u v : Int32) : Int32 := (((u &&& 255) <<< ((0 : Int32) &&& 31)) ||| ((v &&& 255) <<< ((8 : Int32) &&& 31))).toUInt32.toUInt16.toUInt32.toInt32
theorem lo8_and (x : Int32) : (lo8 x &&& 255).toBitVec.toNat = x.toBitVec.toNat % 256 := by
  have h : (lo8 x).toBitVec = (x.toBitVec.signExtend 8).signExtend 32 := by rw [lo8, Int8.toBitVec_toInt32, Int32.toBitVec_toInt8]
  rw [Int32.toBitVec_and, BitVec.toNat_and, h]
  have e : ((x.toBitVec.signExtend 8).signExtend 32).toNat % 256 = x.toBitVec.toNat % 256 := by
    rw [BitVec.toNat_signExtend]
    have hlt := x.toBitVec.isLt
    simp only [BitVec.toNat_setWidth, BitVec.toNat_signExtend]
    split <;> split <;> omega
  rw [← e]
  exact Nat.and_two_pow_sub_one_eq_mod _ 8
theorem pair_says {c : Int32} (h0 : ¬ c < 0) (h1 : ¬ 65535 < c) : pairCh (lo8 c) (hi8 c) = c := by
  rw [Int32.lt_iff_toInt_lt] at h0 h1
  have e0 : (0 : Int32).toInt = 0 := rfl
  have e1 : (65535 : Int32).toInt = 65535 := rfl
  have hc : c.toInt = c.toBitVec.toNat := by
    have := c.toBitVec.isLt
    have e : c.toInt = c.toBitVec.toInt := rfl
    rw [e] at h0 h1
    rw [e]
    rw [BitVec.toInt_eq_toNat_cond] at h0 h1 ⊢
    split at h0 <;> split <;> omega
  have hn : c.toBitVec.toNat < 65536 := by omega
  have a1 := lo8_and c
  have a2 : (hi8 c &&& 255).toBitVec.toNat = c.toBitVec.toNat / 256 := by
    rw [hi8, lo8_and]
    have e : ((8 : Int32) &&& 31) = 8 := by decide
    rw [e, Int32.toBitVec_shiftRight]
    have e2 : ((8 : Int32).toBitVec.smod 32) = 8#32 := by decide
    rw [e2, BitVec.sshiftRight_eq', BitVec.toNat_sshiftRight_of_msb_false (by rw [BitVec.msb_eq_false_iff_two_mul_lt]; omega)]
    show c.toBitVec.toNat >>> 8 % 256 = _
    rw [Nat.shiftRight_eq_div_pow]
    omega
  unfold pairCh
  apply Int32.toBitVec_inj.mp
  apply BitVec.eq_of_toNat_eq
  have f0 : ((0 : Int32) &&& 31) = 0 := by decide
  have f8 : ((8 : Int32) &&& 31) = 8 := by decide
  rw [f0, f8]
  have g : (((lo8 c &&& 255) <<< (0 : Int32)) ||| ((hi8 c &&& 255) <<< (8 : Int32))).toBitVec.toNat = c.toBitVec.toNat := by
    rw [Int32.toBitVec_or, Int32.toBitVec_shiftLeft, Int32.toBitVec_shiftLeft]
    have s0 : ((0 : Int32).toBitVec.smod 32) = 0#32 := by decide
    have s8 : ((8 : Int32).toBitVec.smod 32) = 8#32 := by decide
    rw [s0, s8, BitVec.toNat_or]
    simp only [BitVec.shiftLeft_eq', BitVec.toNat_shiftLeft, a1, a2]
    show (c.toBitVec.toNat % 256) <<< 0 % 2 ^ 32 ||| (c.toBitVec.toNat / 256) <<< 8 % 2 ^ 32 = _
    rw [Nat.shiftLeft_zero, Nat.mod_eq_of_lt (show c.toBitVec.toNat % 256 < 2 ^ 32 by omega), Nat.mod_eq_of_lt (show (c.toBitVec.toNat / 256) <<< 8 < 2 ^ 32 by rw [Nat.shiftLeft_eq]; omega), Nat.or_comm, ← Nat.shiftLeft_add_eq_or_of_lt (by omega), Nat.shiftLeft_eq]
    omega
  show BitVec.toNat (((((lo8 c &&& 255) <<< (0 : Int32)) ||| ((hi8 c &&& 255) <<< (8 : Int32))).toBitVec.setWidth 16).setWidth 32) = _
  rw [BitVec.toNat_setWidth, BitVec.toNat_setWidth, g]
  omega
end StrChars
namespace StrChars
open Jvm Sem ClassFile Op Lib Jvm.Stand Jvm.Free.XT Jvm.Free.ALB Jvm.Free.JM Jvm.Free
open Jvm.Lib.Cold (StaticIs)
/-- the array's cell V codes the n chars f 0 .. f (n - 1) by the coder cd, as the JDK does: coder 1 just where some char is above 255 -/
def Cod (cd : Int32) (n : Nat) (f : Nat → Int32) (V : Cell) : Prop := (cd = 0 ∧ V.slots.size = n ∧ ∀ j, j < n → V.slots[j]? = some (.int (lo8 (f j))) ∧ ¬ 255 < f j) ∨ (cd = 1 ∧ V.slots.size = 2 * n ∧ (∀ j, j < n → V.slots[2 * j]? = some (.int (lo8 (f j))) ∧ V.slots[2 * j + 1]? = some (.int (hi8 (f j)))) ∧ ∃ j, j < n ∧ 255 < f j)
/-- **x is a String of the n chars f 0 .. f (n - 1)**, Latin-1 or UTF-16; its array at t has the cell V -/
def Txt (x t : Addr) (V : Cell) (cd : Int32) (n : Nat) (f : Nat → Int32) (U : State) : Prop := Exact "java/lang/String" x U ∧ Has x "java/lang/String" "value" "[B" (.ref t) U ∧ Has x "java/lang/String" "coder" "B" (.int cd) U ∧ XT.Arr .byte t V U ∧ Cod cd n f V ∧ ∀ j, j < n → ¬ f j < 0 ∧ ¬ 65535 < f j
theorem Txt.mv {x t : Addr} {V : Cell} {cd : Int32} {n : Nat} {f : Nat → Int32} {U U' : State} (h : Txt x t V cd n f U) (hal : U.vm.Alike U'.vm) (hh : U'.heap = U.heap) : Txt x t V cd n f U' := ⟨h.1.mv hal hh, h.2.1.mv hal hh, h.2.2.1.mv hal hh, h.2.2.2.1.mv hal hh, h.2.2.2.2⟩
end StrChars
namespace StrChars.Road
open Jvm Sem ClassFile Op Lib Jvm.Stand Jvm.Free Jvm.Free.XT
open Jvm.Lib.Cold (StaticIs)
theorem consq {a : Array Value} {s : State} {c : Jvm.Cond} {L : List Jvm.Cond} (h0 : c.before a s = true) (h : ∀ w ∈ L, w.before a s = true) : ∀ w ∈ c :: L, w.before a s = true := fun w hw => (List.mem_cons.mp hw).elim (fun e => e ▸ h0) (h w)
/-- the bytes of the chars cs, low before high -/
def wideBytes : List Int32 → List Value
  | [] => []
  | c :: cs => .int (lo8 c) :: .int (hi8 c) :: wideBytes cs
theorem wide_lo (d : Value) : ∀ (cs : List Int32) (j : Nat), j < cs.length → (wideBytes cs).getD (2 * j) d = .int (lo8 (cs.getD j 0))
  | [], j, h => absurd h (Nat.not_lt_zero j)
  | c :: cs, 0, _ => rfl
  | c :: cs, j + 1, h => by
    have q := wide_lo d cs j (by simpa using h)
    rw [show 2 * (j + 1) = 2 * j + 1 + 1 from by omega]
    simpa [wideBytes] using q
theorem wide_hi (d : Value) : ∀ (cs : List Int32) (j : Nat), j < cs.length → (wideBytes cs).getD (2 * j + 1) d = .int (hi8 (cs.getD j 0))
  | [], j, h => absurd h (Nat.not_lt_zero j)
  | c :: cs, 0, _ => rfl
  | c :: cs, j + 1, h => by
    have q := wide_hi d cs j (by simpa using h)
    rw [show 2 * (j + 1) + 1 = 2 * j + 1 + 1 + 1 from by omega]
    simpa [wideBytes] using q
theorem low_at (d : Value) (cs : List Int32) (j : Nat) (h : j < cs.length) : (cs.map fun c => Value.int (lo8 c)).getD j d = .int (lo8 (cs.getD j 0)) := by
  simp [List.getD_eq_getElem?_getD, h]
/-- an array of N2 bytes vs codes the chars cs by the coder cd -/
def CodA (cs : List Int32) (cd N2 : Int32) (vs : List Value) : Prop := (cd = 0 ∧ N2 = Int32.ofNat cs.length ∧ vs = (cs.map fun c => Value.int (lo8 c)) ∧ ∀ c ∈ cs, ¬ 255 < c) ∨ (cd = 1 ∧ N2 = Int32.ofNat (2 * cs.length) ∧ vs = wideBytes cs ∧ ∃ c ∈ cs, 255 < c)
theorem CodA.cod {cs : List Int32} {cd N2 : Int32} {vs : List Value} {V : Cell} (h : CodA cs cd N2 vs) (hn : 2 * cs.length < 2 ^ 31) (hs : V.slots.size = N2.toNatClampNeg) (hv : RoadKit.Has V vs (.int 0)) : Cod cd cs.length (fun j => cs.getD j 0) V := by
  rcases h with ⟨rfl, rfl, rfl, h⟩ | ⟨rfl, rfl, rfl, c, hc, hw⟩
  · rw [n32 (by omega)] at hs
    exact Or.inl ⟨rfl, hs, fun j hj => ⟨by rw [hv j (by omega), low_at _ _ _ hj], by
      have e : cs.getD j 0 = cs[j] := by simp [List.getD_eq_getElem?_getD, hj]
      show ¬ 255 < cs.getD j 0
      rw [e]; exact h _ (List.getElem_mem _)⟩⟩
  · rw [n32 (by omega)] at hs
    obtain ⟨j, hj, rfl⟩ := List.getElem_of_mem hc
    exact Or.inr ⟨rfl, hs, fun j hj => ⟨by rw [hv _ (by omega), wide_lo _ _ _ hj], by rw [hv _ (by omega), wide_hi _ _ _ hj]⟩, j, hj, by
      have e : cs.getD j 0 = cs[j] := by simp [List.getD_eq_getElem?_getD, hj]
      show 255 < cs.getD j 0
      rw [e]; exact hw⟩
/-- an object of exactly java/lang/String, its two fields found: as the laws ask it -/
theorem strObj {Z U : State} {a0 : Array Value} {kI : Nat} (wi : (Jvm.Cond.instantiable ST kI).before a0 Z = true) (al : Z.vm.Alike U.vm) {x : Addr} {v0 c0 : Value} (E : RoadKit.Exa Z U.heap x ST) (V : RoadKit.Fld Z U.heap x ST "value" "[B" v0) (C : RoadKit.Fld Z U.heap x ST "coder" "B" c0) :
    ∃ (D : Cell) (fV fC : Field), Blank ST x D U ∧ Found ST "value" "[B" fV U ∧ Found ST "coder" "B" fC U ∧ D.slots[fV.slot]? = some v0 ∧ D.slots[fC.slot]? = some c0 ∧ RoadKit.slotOf Z ST "value" "[B" = fV.slot ∧ RoadKit.slotOf Z ST "coder" "B" = fC.slot := by
  obtain ⟨D, cfV, kV, iV, fV, hD, gV, stV, knV, obV, asV, slV⟩ := V
  obtain ⟨D', cfC, kC, iC, fC, hD', gC, stC, -, -, asC, slC⟩ := C
  cases hD.symm.trans hD'
  obtain ⟨D2, kD, e1, e2, e3, e4, e5⟩ := E
  cases hD.symm.trans e1
  obtain ⟨c2, k2, i1, i2, i3, -⟩ := Cond.instantiable_spec wi
  cases e2.symm.trans i1
  cases e3.symm.trans i2
  obtain ⟨kU, u1, u2⟩ := al.2.2 _ _ e3
  exact ⟨D, fV, fC, ⟨hD, ⟨knV, fun q hq => by rw [hq] at obV; cases obV⟩, by rw [al.findClass]; exact e2, kU, u1, by rw [u2]; exact i3, by rw [u2]; exact e5 i3⟩, ⟨SBG.found_only al ⟨cfV, kV, iV, gV⟩, stV⟩, ⟨SBG.found_only al ⟨cfC, kC, iC, gC⟩, stC⟩, slV, slC, by simp [RoadKit.slotOf, gV], by simp [RoadKit.slotOf, gC]⟩
theorem sta_is {Z U : State} (al : Z.vm.Alike U.vm) {C n d : String} {v : Value} (S : RoadKit.Sta Z U.heap C n d v) : StaticIs U C n d v := by
  obtain ⟨cfS, iS, kS, fS, st, cS, t1, t2, t3, t4, t5, t6, t7⟩ := S
  exact StaticIs.there (s := { Z with heap := U.heap }) ⟨cfS, iS, kS, fS, st, cS, t1, t2, t3, t4, t5, (fun q => by rw [q] at t6; cases t6), t7⟩ al rfl
end StrChars.Road
namespace StrChars
open Jvm Sem ClassFile Op Lib Jvm.Stand Jvm.Free.XT Jvm.Free.ALB Jvm.Free.JM Jvm.Free
open Jvm.Lib.Cold (StaticIs)
namespace Emp
def yN : MethodName := ⟨"java/lang/String", "isEmpty", "()Z"⟩
abbrev yB : ByteArray := jdk_42_method_55_code
theorem d0 : decode yB 0 = .ok (.aload_n 0, 1) := by decide +kernel
theorem d1 : decode yB 1 = .ok (.getfield 9, 3) := by decide +kernel
theorem d4 : decode yB 4 = .ok (.arraylength, 1) := by decide +kernel
theorem d5 : decode yB 5 = .ok (.ifCond (.ne) 7, 3) := by decide +kernel
theorem d8 : decode yB 8 = .ok (.iconst 1, 1) := by decide +kernel
theorem d9 : decode yB 9 = .ok (.goto 4, 3) := by decide +kernel
theorem d12 : decode yB 12 = .ok (.iconst 0, 1) := by decide +kernel
theorem d13 : decode yB 13 = .ok (.ireturn, 1) := by decide +kernel
def site : List Cond := [.fieldLink "java/lang/String" 9 "java/lang/String" "value" "[B"]
def tab : Cond := tabOf yN yB 1 (some .boolean) site
def P (x t : Addr) (V : Cell) (cd : Int32) (n : Nat) (f : Nat → Int32) (args : Array Value) (s : State) : Prop := args = #[.ref x] ∧ Txt x t V cd n f s
def E (n : Nat) (r : Option Value) (s u : State) : Prop := XT.PureE (some (.int (if n = 0 then 1 else 0))) r s u
/-- isEmpty() of a String of n chars -/
theorem law (l : Launch) (x t : Addr) (V : Cell) (cd : Int32) (n : Nat) (f : Nat → Int32) : Law l yN 1 0 0 0 yB 1 (some .boolean) site (P x t V cd n f) (E n) [] 0 0 := by
  refine Law.of_walk (plainFor_of_name (by decide +kernel)) (by decide +kernel) (by decide +kernel) (by decide) (fun _ _ h => by rw [h.1]; rfl) (fun _ U U' hal hh h => ⟨h.1, h.2.mv hal hh⟩) (fun r U U' V V' h1 hal h2 h => XT.PureE.mv r U U' V V' h1 hal h2 h) ?_
  intro p e s m args below meth c s₁ X0 hexec hbytes hml hret hlk hnm hown hh0 W hP
  obtain ⟨rfl, hx⟩ := hP
  have v31 := hx.2.2.2.1.2.2.2
  have c1 : Steps p.tables e below (s₁.setTop (entryFrame m #[.ref x] 1)) (s₁.setTop (mkF m 1 #[.val (.ref x)] [.ref x])) := Steps.trans (entry rfl) (by
    show Steps p.tables e below (s₁.setTop (mkF m 0 #[.val (.ref x)] [])) _
    refine XS.aloadN X0.here hexec rfl (hb hbytes d0) rfl rfl ?_
    exact Steps.refl _)
  obtain ⟨T2, X2, q2, st2⟩ := X0.hget hexec hown (wk W (.fieldLink "java/lang/String" 9 "java/lang/String" "value" "[B")) (hx.mv X0.warmed.alike hh0).2.1 (g := (mkF m 1 #[.val (.ref x)] [.ref x])) rfl (rest := []) rfl (hb hbytes d1)
  have hh2 := q2.trans hh0
  have hx2 := hx.mv X2.warmed.alike hh2
  have c3 : Steps p.tables e below (s₁.setTop (entryFrame m #[.ref x] 1)) (T2.setTop (mkF m 5 #[.val (.ref x)] [.int (Int32.ofNat V.slots.size)])) := (c1.trans (st2 _ (Steps.refl _))).trans (by
    refine X2.alen hexec hx2.2.2.2.1 rfl rfl (hb hbytes d4) ?_
    exact Steps.refl _)
  have hz : V.slots.size = 0 ↔ n = 0 := by
    rcases hx.2.2.2.2.1 with ⟨-, q, -⟩ | ⟨-, q, -⟩ <;> omega
  by_cases h0 : n = 0
  · have c4 : Steps p.tables e below (s₁.setTop (entryFrame m #[.ref x] 1)) (T2.setTop (mkF m 13 #[.val (.ref x)] [.int 1])) := c3.trans (by
      refine XS.ifNo X2.here hexec rfl (hb hbytes d5) rfl (i0_ne_f (by rw [hz.mpr h0]; rfl)) ?_
      refine iconstV X2.here hexec rfl 1 (hb hbytes d8) (by decide) ?_
      refine XS.goto X2.here hexec rfl (pc0 := 9) rfl (hb hbytes d9) (by decide) rfl ?_
      exact Steps.refl _)
    exact ⟨T2, some (.int 1), _, _, _, X2, rfl, rfl, rfl, (fun h => by cases h), ⟨by rw [if_pos h0], hh2⟩, fun fs hl => c4.trans (X2.ireturnOut hexec hret rfl (Or.inr (Or.inl rfl)) (hb hbytes d13) hl)⟩
  · have c4 : Steps p.tables e below (s₁.setTop (entryFrame m #[.ref x] 1)) (T2.setTop (mkF m 13 #[.val (.ref x)] [.int 0])) := c3.trans (by
      refine XS.ifYes X2.here hexec rfl (pc0 := 5) rfl (hb hbytes d5) rfl (i0_ne_t (nz32 v31 (by omega))) (by decide) rfl ?_
      refine iconstV X2.here hexec rfl 0 (hb hbytes d12) (by decide) ?_
      exact Steps.refl _)
    exact ⟨T2, some (.int 0), _, _, _, X2, rfl, rfl, rfl, (fun h => by cases h), ⟨by rw [if_neg h0], hh2⟩, fun fs hl => c4.trans (X2.ireturnOut hexec hret rfl (Or.inr (Or.inl rfl)) (hb hbytes d13) hl)⟩
theorem pays {l : Launch} {R : Room} {p : Program} {e : Env} {below : List Frame} {s : State} {sargs : Array Value} {len W : Nat} (x t : Addr) (V : Cell) (cd : Int32) (n : Nat) (f : Nat → Int32) (htab : tab.before sargs s = true) (hfr : 1 ≤ R.frames) (hlo : W + 12 ≤ R.locals) :
    Back l R p e below s sargs yN len W (fun A₁ a₁ => A₁.cells + 0 ≤ R.cells ∧ A₁.slots + 0 ≤ R.slots ∧ P x t V cd n f a₁ A₁.U) (fun A₁ _ v₁ B₁ => E n v₁ A₁.U B₁.U ∧ B₁.locs = A₁.locs ++ [] ∧ B₁.cells = A₁.cells + 0 ∧ B₁.slots = A₁.slots + 0) :=
  (law l x t V cd n f).pays htab hfr (by omega)
end Emp
/-- what place i of a byte[]'s cell holds -/
def yv (A : Cell) (i : Nat) : Int32 := match A.slots[i]? with | some (.int x) => x | _ => 0
theorem yv_get {a : Addr} {A : Cell} {U : State} (h : XT.Arr .byte a A U) (ht : Typed .byte A) {i : Nat} (hi : i < A.slots.size) : A.slots[i]? = some (.int (yv A i)) := by
  have e := Array.getElem?_eq_getElem hi
  have f := ht i _ e
  unfold yv; rw [e]
  generalize A.slots[i] = v at f
  cases v <;> simp [fits] at f ⊢
/-- the two arrays are equal, place for place -/
def EqC (A B : Cell) : Prop := A.slots.size = B.slots.size ∧ ∀ i, i < A.slots.size → yv A i = yv B i
/-- a boolean that says whether p -/
def Says01 (q : Prop) (r : Option Value) (s u : State) : Prop := ∃ v : Int32, r = some (.int v) ∧ u.heap = s.heap ∧ ((v = 1 ∧ q) ∨ (v = 0 ∧ ¬ q))
theorem Says01.mv {q : Prop} : ∀ r (U U' V V' : State), U'.heap = U.heap → V.vm.Alike V'.vm → V'.heap = V.heap → Says01 q r U V → Says01 q r U' V' :=
  fun r U U' V V' h1 _ h2 ⟨v, a, b, c⟩ => ⟨v, a, by rw [h1, h2]; exact b, c⟩
namespace LEq
def yN : MethodName := ⟨"java/lang/StringLatin1", "equals", "([B[B)Z"⟩
abbrev yB : ByteArray := jdk_43_method_13_code
theorem d0 : decode yB 0 = .ok (.aload_n 0, 1) := by decide +kernel
theorem d1 : decode yB 1 = .ok (.arraylength, 1) := by decide +kernel
theorem d2 : decode yB 2 = .ok (.aload_n 1, 1) := by decide +kernel
theorem d3 : decode yB 3 = .ok (.arraylength, 1) := by decide +kernel
theorem d4 : decode yB 4 = .ok (.if_icmp (.ne) 30, 3) := by decide +kernel
theorem d7 : decode yB 7 = .ok (.iconst 0, 1) := by decide +kernel
theorem d8 : decode yB 8 = .ok (.istore_n 2, 1) := by decide +kernel
theorem d9 : decode yB 9 = .ok (.iload_n 2, 1) := by decide +kernel
theorem d10 : decode yB 10 = .ok (.aload_n 0, 1) := by decide +kernel
theorem d11 : decode yB 11 = .ok (.arraylength, 1) := by decide +kernel
theorem d12 : decode yB 12 = .ok (.if_icmp (.ge) 20, 3) := by decide +kernel
theorem d15 : decode yB 15 = .ok (.aload_n 0, 1) := by decide +kernel
theorem d16 : decode yB 16 = .ok (.iload_n 2, 1) := by decide +kernel
theorem d17 : decode yB 17 = .ok (.baload, 1) := by decide +kernel
theorem d18 : decode yB 18 = .ok (.aload_n 1, 1) := by decide +kernel
theorem d19 : decode yB 19 = .ok (.iload_n 2, 1) := by decide +kernel
theorem d20 : decode yB 20 = .ok (.baload, 1) := by decide +kernel
theorem d21 : decode yB 21 = .ok (.if_icmp (.eq) 5, 3) := by decide +kernel
theorem d24 : decode yB 24 = .ok (.iconst 0, 1) := by decide +kernel
theorem d25 : decode yB 25 = .ok (.ireturn, 1) := by decide +kernel
theorem d26 : decode yB 26 = .ok (.iinc 2 1, 3) := by decide +kernel
theorem d29 : decode yB 29 = .ok (.goto (-20), 3) := by decide +kernel
theorem d32 : decode yB 32 = .ok (.iconst 1, 1) := by decide +kernel
theorem d33 : decode yB 33 = .ok (.ireturn, 1) := by decide +kernel
theorem d34 : decode yB 34 = .ok (.iconst 0, 1) := by decide +kernel
theorem d35 : decode yB 35 = .ok (.ireturn, 1) := by decide +kernel
def site : List Cond := []
def tab : Cond := tabOf yN yB 3 (some .boolean) site
def P (a : Addr) (A : Cell) (b : Addr) (B : Cell) (args : Array Value) (s : State) : Prop := args = #[.ref a, .ref b] ∧ XT.Arr .byte a A s ∧ Typed .byte A ∧ XT.Arr .byte b B s ∧ Typed .byte B
/-- whether two byte[] are equal, place for place -/
theorem law (l : Launch) (a : Addr) (A : Cell) (b : Addr) (B : Cell) : Law l yN 2 2 0 0 yB 3 (some .boolean) site (P a A b B) (Says01 (EqC A B)) [] 0 0 := by
  refine Law.of_walk (plainFor_of_name (by decide +kernel)) (by decide +kernel) (by decide +kernel) (by decide) (fun _ _ h => by rw [h.1]; rfl) (fun _ U U' hal hh h => ⟨h.1, h.2.1.mv hal hh, h.2.2.1, h.2.2.2.1.mv hal hh, h.2.2.2.2⟩) (fun r U U' V V' h1 hal h2 h => Says01.mv r U U' V V' h1 hal h2 h) ?_
  intro p e s m args below meth c s₁ X0 hexec hbytes hml hret hlk hnm hown hh0 W hP
  obtain ⟨rfl, hA, tA, hB, tB⟩ := hP
  have a31 := hA.2.2.2
  have b31 := hB.2.2.2
  have hA0 := hA.mv X0.warmed.alike hh0
  have hB0 := hB.mv X0.warmed.alike hh0
  have c1 : Steps p.tables e below (s₁.setTop (entryFrame m #[.ref a, .ref b] 3)) (s₁.setTop (mkF m 0 #[.val (.ref a), .val (.ref b), .unset] [])) := entry rfl
  have c2 : Steps p.tables e below (s₁.setTop (entryFrame m #[.ref a, .ref b] 3)) (s₁.setTop (mkF m 4 #[.val (.ref a), .val (.ref b), .unset] [.int (Int32.ofNat B.slots.size), .int (Int32.ofNat A.slots.size)])) := c1.trans (by
    refine XS.aloadN X0.here hexec rfl (hb hbytes d0) rfl rfl ?_
    refine X0.alen hexec hA0 rfl rfl (hb hbytes d1) ?_
    refine XS.aloadN X0.here hexec rfl (hb hbytes d2) rfl rfl ?_
    refine X0.alen hexec hB0 rfl rfl (hb hbytes d3) ?_
    exact Steps.refl _)
  by_cases hs : A.slots.size = B.slots.size
  · have c3 : Steps p.tables e below (s₁.setTop (entryFrame m #[.ref a, .ref b] 3)) (s₁.setTop (mkF m 9 #[.val (.ref a), .val (.ref b), .val (.int 0)] [])) := c2.trans (by
      refine XS.icmpNo X0.here hexec rfl (hb hbytes d4) rfl (ii_ne_f (by rw [hs])) ?_
      refine iconstV X0.here hexec rfl 0 (hb hbytes d7) (by decide) ?_
      refine XS.istoreN X0.here hexec rfl (hb hbytes d8) rfl rfl ?_
      exact Steps.refl _)
    have loop : ∀ (r i : Nat), i + r = A.slots.size → (∀ j, j < i → yv A j = yv B j) → Steps p.tables e below (s₁.setTop (entryFrame m #[.ref a, .ref b] 3)) (s₁.setTop (mkF m 9 #[.val (.ref a), .val (.ref b), .val (.int (Int32.ofNat i))] [])) → ∃ (pc : Nat) (Ls : Array Slot) (v : Int32), (pc = 25 ∨ pc = 33) ∧ ((v = 1 ∧ EqC A B) ∨ (v = 0 ∧ ¬ EqC A B)) ∧ Steps p.tables e below (s₁.setTop (entryFrame m #[.ref a, .ref b] 3)) (s₁.setTop (mkF m pc Ls [.int v])) := by
      intro r
      induction r with
      | zero =>
        intro i hi he cl
        exact ⟨33, _, 1, Or.inr rfl, Or.inl ⟨rfl, hs, fun j hj => he j (by omega)⟩, cl.trans (by
          refine XS.iloadN X0.here hexec rfl (hb hbytes d9) rfl ?_
          refine XS.aloadN X0.here hexec rfl (hb hbytes d10) rfl rfl ?_
          refine X0.alen hexec hA0 rfl rfl (hb hbytes d11) ?_
          refine XS.icmpYes X0.here hexec rfl (pc0 := 12) rfl (hb hbytes d12) rfl (ii_ge_t (nlt32 (by omega) (by omega))) (by decide) rfl ?_
          refine iconstV X0.here hexec rfl 1 (hb hbytes d32) (by decide) ?_
          exact Steps.refl _)⟩
      | succ r ih =>
        intro i hi he cl
        have c4 : Steps p.tables e below (s₁.setTop (entryFrame m #[.ref a, .ref b] 3)) (s₁.setTop (mkF m 21 #[.val (.ref a), .val (.ref b), .val (.int (Int32.ofNat i))] [.int (yv B i), .int (yv A i)])) := cl.trans (by
          refine XS.iloadN X0.here hexec rfl (hb hbytes d9) rfl ?_
          refine XS.aloadN X0.here hexec rfl (hb hbytes d10) rfl rfl ?_
          refine X0.alen hexec hA0 rfl rfl (hb hbytes d11) ?_
          refine XS.icmpNo X0.here hexec rfl (hb hbytes d12) rfl (ii_ge_f (lt32 (by omega) (by omega))) ?_
          refine XS.aloadN X0.here hexec rfl (hb hbytes d15) rfl rfl ?_
          refine XS.iloadN X0.here hexec rfl (hb hbytes d16) rfl ?_
          refine X0.aget hexec hA0 rfl (yv_get hA tA (i := i) (by omega)) rfl rfl (hb hbytes d17) ?_
          refine XS.aloadN X0.here hexec rfl (hb hbytes d18) rfl rfl ?_
          refine XS.iloadN X0.here hexec rfl (hb hbytes d19) rfl ?_
          refine X0.aget hexec hB0 rfl (yv_get hB tB (i := i) (by omega)) rfl rfl (hb hbytes d20) ?_
          exact Steps.refl _)
        by_cases hv : yv A i = yv B i
        · have c5 : Steps p.tables e below (s₁.setTop (entryFrame m #[.ref a, .ref b] 3)) (s₁.setTop (mkF m 9 #[.val (.ref a), .val (.ref b), .val (.int (Int32.ofNat i + 1))] [])) := c4.trans (by
            refine XS.icmpYes X0.here hexec rfl (pc0 := 21) rfl (hb hbytes d21) rfl (ii_eq_t hv) (by decide) rfl ?_
            refine iincV X0.here hexec rfl 1 (hb hbytes d26) (by decide) rfl rfl ?_
            refine XS.goto X0.here hexec rfl (pc0 := 29) rfl (hb hbytes d29) (by decide) rfl ?_
            exact Steps.refl _)
          rw [succ32] at c5
          exact ih (i + 1) (by omega) (fun j hj => by
            by_cases e : j = i
            · rw [e]; exact hv
            · exact he j (by omega)) c5
        · exact ⟨25, _, 0, Or.inl rfl, Or.inr ⟨rfl, fun q => hv (q.2 i (by omega))⟩, c4.trans (by
            refine XS.icmpNo X0.here hexec rfl (hb hbytes d21) rfl (ii_eq_f hv) ?_
            refine iconstV X0.here hexec rfl 0 (hb hbytes d24) (by decide) ?_
            exact Steps.refl _)⟩
    obtain ⟨pc, Ls, v, hpc, hv, cz⟩ := loop A.slots.size 0 (by omega) (fun j hj => absurd hj (Nat.not_lt_zero j)) c3
    have nv : narrow .boolean (.int v) = .int v := by rcases hv with ⟨rfl, -⟩ | ⟨rfl, -⟩ <;> rfl
    rcases hpc with rfl | rfl
    · exact ⟨s₁, some (.int v), _, _, _, X0, rfl, rfl, rfl, (fun h => by cases h), ⟨v, rfl, hh0, hv⟩, fun fs hl => cz.trans (X0.ireturnOut hexec hret nv (Or.inr (Or.inl rfl)) (hb hbytes d25) hl)⟩
    · exact ⟨s₁, some (.int v), _, _, _, X0, rfl, rfl, rfl, (fun h => by cases h), ⟨v, rfl, hh0, hv⟩, fun fs hl => cz.trans (X0.ireturnOut hexec hret nv (Or.inr (Or.inl rfl)) (hb hbytes d33) hl)⟩
  · have c3 : Steps p.tables e below (s₁.setTop (entryFrame m #[.ref a, .ref b] 3)) (s₁.setTop (mkF m 35 #[.val (.ref a), .val (.ref b), .unset] [.int 0])) := c2.trans (by
      refine XS.icmpYes X0.here hexec rfl (pc0 := 4) rfl (hb hbytes d4) rfl (ii_ne_t (ne32 a31 b31 hs)) (by decide) rfl ?_
      refine iconstV X0.here hexec rfl 0 (hb hbytes d34) (by decide) ?_
      exact Steps.refl _)
    exact ⟨s₁, some (.int 0), _, _, _, X0, rfl, rfl, rfl, (fun h => by cases h), ⟨0, rfl, hh0, Or.inr ⟨rfl, fun q => hs q.1⟩⟩, fun fs hl => c3.trans (X0.ireturnOut hexec hret rfl (Or.inr (Or.inl rfl)) (hb hbytes d35) hl)⟩
end LEq
theorem Cod.ty {cd : Int32} {n : Nat} {f : Nat → Int32} {V : Cell} (h : Cod cd n f V) : Typed .byte V := fun i v hv => by
  have hi : i < V.slots.size := (Array.getElem?_eq_some_iff.mp hv).1
  rcases h with ⟨-, k1, k2⟩ | ⟨-, k1, k2, -⟩
  · rw [(k2 i (by omega)).1] at hv; cases hv; exact fits_lo8 _
  · rcases Nat.mod_two_eq_zero_or_one i with e | e
    · obtain ⟨j, rfl⟩ : ∃ j, i = 2 * j := ⟨i / 2, by omega⟩
      rw [(k2 j (by omega)).1] at hv; cases hv; exact fits_lo8 _
    · obtain ⟨j, rfl⟩ : ∃ j, i = 2 * j + 1 := ⟨i / 2, by omega⟩
      rw [(k2 j (by omega)).2] at hv; cases hv; exact fits_lo8 _
/-- the same text -/
def SameT (n : Nat) (f : Nat → Int32) (k : Nat) (g : Nat → Int32) : Prop := n = k ∧ ∀ j, j < n → f j = g j
theorem lo8_inj {x y : Int32} (h0 : ¬ x < 0) (h1 : ¬ 255 < x) (k0 : ¬ y < 0) (k1 : ¬ 255 < y) (h : lo8 x = lo8 y) : x = y := by
  rw [← lo8_mask h0 h1, ← lo8_mask k0 k1, h]
/-- arrays coded by one coder are equal just where the texts are -/
theorem Cod.eqv {cd : Int32} {n k : Nat} {f g : Nat → Int32} {V V' : Cell} (h : Cod cd n f V) (h' : Cod cd k g V') (hf : ∀ j, j < n → ¬ f j < 0 ∧ ¬ 65535 < f j) (hg : ∀ j, j < k → ¬ g j < 0 ∧ ¬ 65535 < g j) : EqC V V' ↔ SameT n f k g := by
  have yvv : ∀ {W : Cell} {i : Nat} {x : Int32}, W.slots[i]? = some (.int x) → yv W i = x := fun q => by unfold yv; rw [q]
  rcases h with ⟨rfl, k1, k2⟩ | ⟨rfl, k1, k2, -⟩
  · rcases h' with ⟨-, m1, m2⟩ | ⟨e, -⟩
    · constructor
      · rintro ⟨e1, e2⟩
        refine ⟨by omega, fun j hj => ?_⟩
        have q := e2 j (by omega)
        rw [yvv (k2 j hj).1, yvv (m2 j (by omega)).1] at q
        exact lo8_inj (hf j hj).1 (k2 j hj).2 (hg j (by omega)).1 (m2 j (by omega)).2 q
      · rintro ⟨rfl, e2⟩
        refine ⟨by omega, fun j hj => ?_⟩
        rw [yvv (k2 j (by omega)).1, yvv (m2 j (by omega)).1, e2 j (by omega)]
    · exact absurd e (by decide)
  · rcases h' with ⟨e, -⟩ | ⟨-, m1, m2, -⟩
    · exact absurd e (by decide)
    · constructor
      · rintro ⟨e1, e2⟩
        refine ⟨by omega, fun j hj => ?_⟩
        have q1 := e2 (2 * j) (by omega)
        have q2 := e2 (2 * j + 1) (by omega)
        rw [yvv (k2 j hj).1, yvv (m2 j (by omega)).1] at q1
        rw [yvv (k2 j hj).2, yvv (m2 j (by omega)).2] at q2
        rw [← pair_says (hf j hj).1 (hf j hj).2, ← pair_says (hg j (by omega)).1 (hg j (by omega)).2, q1, q2]
      · rintro ⟨rfl, e2⟩
        refine ⟨by omega, fun i hi => ?_⟩
        rcases Nat.mod_two_eq_zero_or_one i with e | e
        · obtain ⟨j, rfl⟩ : ∃ j, i = 2 * j := ⟨i / 2, by omega⟩
          rw [yvv (k2 j (by omega)).1, yvv (m2 j (by omega)).1, e2 j (by omega)]
        · obtain ⟨j, rfl⟩ : ∃ j, i = 2 * j + 1 := ⟨i / 2, by omega⟩
          rw [yvv (k2 j (by omega)).2, yvv (m2 j (by omega)).2, e2 j (by omega)]
/-- two codings differ: so do the texts -/
theorem Cod.dif {cd cd' : Int32} {n k : Nat} {f g : Nat → Int32} {V V' : Cell} (h : Cod cd n f V) (h' : Cod cd' k g V') (hne : ¬ cd = cd') : ¬ SameT n f k g := by
  rintro ⟨rfl, e⟩
  rcases h with ⟨rfl, -, k2⟩ | ⟨rfl, -, -, j, hj, hw⟩
  · rcases h' with ⟨rfl, -⟩ | ⟨-, -, -, j, hj, hw⟩
    · exact hne rfl
    · exact (k2 j hj).2 (by rw [e j hj]; exact hw)
  · rcases h' with ⟨-, -, m2⟩ | ⟨rfl, -⟩
    · exact (m2 j hj).2 (by rw [← e j hj]; exact hw)
    · exact hne rfl
/-- an object of exactly C is an instance of C -/
theorem cinst {p : Program} {l : Launch} {e : Env} {R : Room} {s : State} {m : MethodId} {args : Array Value} {below : List Frame} {meth : Method} {c : Code} {T : State} {locs : List Loc} {cells slots : Nat} (X : Stand p l e R s m args below meth c T locs cells slots) (hexec : p.tables.exec = Jvm.exec) {own C : String} {index : Nat} (hown : s.vm.findClass own = some m.cls) (hlink : (Cond.classLink own index C).before args s = true) {a : Addr} (hE : Exact C a T)
    {g : JFrame} (hg : g.method = m) {rest : List Value} (hstack : g.stack = .ref a :: rest) (hdg : decode c.code g.pc = .ok (.instanceof index, 3)) :
    ∃ T', Stand p l e R s m args below meth c T' locs cells slots ∧ T'.heap = T.heap ∧ ∀ target, Steps p.tables e below (T'.setTop { g with pc := g.pc + 3, stack := .int 1 :: rest }) target → Steps p.tables e below (T.setTop g) target := by
  obtain ⟨cB, h1, D, h2, h3, h4⟩ := hE
  have h1' : s.vm.findClass C = some cB := by rw [← X.warmed.alike.findClass]; exact h1
  obtain ⟨vm', X', st⟩ := X.instanceofYes hexec hown hlink h2 h4 h1' (by rw [h3]; exact Jvm.Free.SB.assignable_self _ _) hg hstack hdg
  exact ⟨_, X', rfl, st⟩
theorem cself {p : Program} {l : Launch} {e : Env} {R : Room} {s : State} {m : MethodId} {args : Array Value} {below : List Frame} {meth : Method} {c : Code} {T : State} {locs : List Loc} {cells slots : Nat} (X : Stand p l e R s m args below meth c T locs cells slots) (hexec : p.tables.exec = Jvm.exec) {own C : String} {index : Nat} (hown : s.vm.findClass own = some m.cls) (hlink : (Cond.classLink own index C).before args s = true) {a : Addr} (hE : Exact C a T)
    {g : JFrame} (hg : g.method = m) {rest : List Value} (hstack : g.stack = .ref a :: rest) (hdg : decode c.code g.pc = .ok (.checkcast index, 3)) :
    ∃ T', Stand p l e R s m args below meth c T' locs cells slots ∧ T'.heap = T.heap ∧ ∀ target, Steps p.tables e below (T'.setTop { g with pc := g.pc + 3, stack := .ref a :: rest }) target → Steps p.tables e below (T.setTop g) target := by
  obtain ⟨cB, h1, D, h2, h3, h4⟩ := hE
  have h1' : s.vm.findClass C = some cB := by rw [← X.warmed.alike.findClass]; exact h1
  obtain ⟨vm', X', st⟩ := X.checkcastYes hexec hown hlink h2 h4 h1' (by rw [h3]; exact Jvm.Free.SB.assignable_self _ _) hg hstack hdg
  exact ⟨_, X', rfl, fun t h => st t (by rw [← hstack] at h; exact h)⟩
namespace SEq
def yN : MethodName := ⟨"java/lang/String", "equals", "(Ljava/lang/Object;)Z"⟩
abbrev yB : ByteArray := jdk_42_method_66_code
theorem d0 : decode yB 0 = .ok (.aload_n 0, 1) := by decide +kernel
theorem d1 : decode yB 1 = .ok (.aload_n 1, 1) := by decide +kernel
theorem d2 : decode yB 2 = .ok (.if_acmp (.ne) 5, 3) := by decide +kernel
theorem d5 : decode yB 5 = .ok (.iconst 1, 1) := by decide +kernel
theorem d6 : decode yB 6 = .ok (.ireturn, 1) := by decide +kernel
theorem d7 : decode yB 7 = .ok (.aload_n 1, 1) := by decide +kernel
theorem d8 : decode yB 8 = .ok (.instanceof 10, 3) := by decide +kernel
theorem d11 : decode yB 11 = .ok (.ifCond (.eq) 43, 3) := by decide +kernel
theorem d14 : decode yB 14 = .ok (.aload_n 1, 1) := by decide +kernel
theorem d15 : decode yB 15 = .ok (.checkcast 10, 3) := by decide +kernel
theorem d18 : decode yB 18 = .ok (.astore_n 2, 1) := by decide +kernel
theorem d19 : decode yB 19 = .ok (.getstatic 38, 3) := by decide +kernel
theorem d22 : decode yB 22 = .ok (.ifCond (.eq) 14, 3) := by decide +kernel
theorem d25 : decode yB 25 = .ok (.aload_n 0, 1) := by decide +kernel
theorem d26 : decode yB 26 = .ok (.getfield 15, 3) := by decide +kernel
theorem d29 : decode yB 29 = .ok (.aload_n 2, 1) := by decide +kernel
theorem d30 : decode yB 30 = .ok (.getfield 15, 3) := by decide +kernel
theorem d33 : decode yB 33 = .ok (.if_icmp (.ne) 21, 3) := by decide +kernel
theorem d36 : decode yB 36 = .ok (.aload_n 0, 1) := by decide +kernel
theorem d37 : decode yB 37 = .ok (.getfield 9, 3) := by decide +kernel
theorem d40 : decode yB 40 = .ok (.aload_n 2, 1) := by decide +kernel
theorem d41 : decode yB 41 = .ok (.getfield 9, 3) := by decide +kernel
theorem d44 : decode yB 44 = .ok (.invokestatic 541, 3) := by decide +kernel
theorem d47 : decode yB 47 = .ok (.ifCond (.eq) 7, 3) := by decide +kernel
theorem d50 : decode yB 50 = .ok (.iconst 1, 1) := by decide +kernel
theorem d51 : decode yB 51 = .ok (.goto 4, 3) := by decide +kernel
theorem d54 : decode yB 54 = .ok (.iconst 0, 1) := by decide +kernel
theorem d55 : decode yB 55 = .ok (.ireturn, 1) := by decide +kernel
def site : List Cond := [.classLink "java/lang/String" 10 "java/lang/String", .fieldLink "java/lang/String" 38 "java/lang/String" "COMPACT_STRINGS" "Z", .fieldLink "java/lang/String" 15 "java/lang/String" "coder" "B", .fieldLink "java/lang/String" 9 "java/lang/String" "value" "[B", LEq.tab] ++ staticW "java/lang/String" 541 LEq.yN
def tab : Cond := tabOf yN yB 3 (some .boolean) site
def P (x t : Addr) (V : Cell) (cd : Int32) (n : Nat) (f : Nat → Int32) (y t' : Addr) (V' : Cell) (cd' : Int32) (k : Nat) (g : Nat → Int32) (z : Int32) (args : Array Value) (s : State) : Prop := args = #[.ref x, .ref y] ∧ Txt x t V cd n f s ∧ Txt y t' V' cd' k g s ∧ StaticIs s "java/lang/String" "COMPACT_STRINGS" "Z" (.int z) ∧ ¬ z = 0
/-- equals(Object) of two Strings: whether the texts are the same -/
theorem law (l : Launch) (x t : Addr) (V : Cell) (cd : Int32) (n : Nat) (f : Nat → Int32) (y t' : Addr) (V' : Cell) (cd' : Int32) (k : Nat) (g : Nat → Int32) (z : Int32) : Law l yN 2 1 1 14 yB 3 (some .boolean) site (P x t V cd n f y t' V' cd' k g z) (Says01 (SameT n f k g)) [] 0 0 := by
  refine Law.of_walk (plainFor_of_name (by decide +kernel)) (by decide +kernel) (by decide +kernel) (by decide) (fun _ _ h => by rw [h.1]; rfl) (fun _ U U' hal hh h => ⟨h.1, h.2.1.mv hal hh, h.2.2.1.mv hal hh, h.2.2.2.1.there hal hh, h.2.2.2.2⟩) (fun r U U' V V' h1 hal h2 h => Says01.mv r U U' V V' h1 hal h2 h) ?_
  intro p e s m args below meth c s₁ X0 hexec hbytes hml hret hlk hnm hown hh0 W hP
  obtain ⟨rfl, hx, hy, s1, hz⟩ := hP
  have c1 : Steps p.tables e below (s₁.setTop (entryFrame m #[.ref x, .ref y] 3)) (s₁.setTop (mkF m 2 #[.val (.ref x), .val (.ref y), .unset] [.ref y, .ref x])) := Steps.trans (entry rfl) (by
    show Steps p.tables e below (s₁.setTop (mkF m 0 #[.val (.ref x), .val (.ref y), .unset] [])) _
    refine XS.aloadN X0.here hexec rfl (hb hbytes d0) rfl rfl ?_
    refine XS.aloadN X0.here hexec rfl (hb hbytes d1) rfl rfl ?_
    exact Steps.refl _)
  by_cases hxy : x = y
  · have c2 : Steps p.tables e below (s₁.setTop (entryFrame m #[.ref x, .ref y] 3)) (s₁.setTop (mkF m 6 #[.val (.ref x), .val (.ref y), .unset] [.int 1])) := c1.trans (by
      refine acmpNo X0.here hexec rfl (hb hbytes d2) rfl rfl rfl (by simp [acmp, hxy]) ?_
      refine iconstV X0.here hexec rfl 1 (hb hbytes d5) (by decide) ?_
      exact Steps.refl _)
    subst hxy
    have ec : cd = cd' := by
      obtain ⟨D, fd, a1, a2, a3⟩ := hx.2.2.1
      obtain ⟨D', fd', b1, b2, b3⟩ := hy.2.2.1
      cases a1.symm.trans b1
      obtain ⟨q1, q2, q3, q4⟩ := a2.1
      obtain ⟨r1, r2, r3, r4⟩ := b2.1
      cases q4.symm.trans r4
      cases a3.symm.trans b3; rfl
    have et : t = t' := by
      obtain ⟨D, fd, a1, a2, a3⟩ := hx.2.1
      obtain ⟨D', fd', b1, b2, b3⟩ := hy.2.1
      cases a1.symm.trans b1
      obtain ⟨q1, q2, q3, q4⟩ := a2.1
      obtain ⟨r1, r2, r3, r4⟩ := b2.1
      cases q4.symm.trans r4
      cases a3.symm.trans b3; rfl
    subst ec et
    have ev : V = V' := by cases hx.2.2.2.1.1.symm.trans hy.2.2.2.1.1; rfl
    subst ev
    have hs : SameT n f k g := (Cod.eqv hx.2.2.2.2.1 hy.2.2.2.2.1 hx.2.2.2.2.2 hy.2.2.2.2.2).mp ⟨rfl, fun _ _ => rfl⟩
    exact ⟨s₁, some (.int 1), _, _, _, X0, rfl, rfl, rfl, (fun h => by cases h), ⟨1, rfl, hh0, Or.inl ⟨rfl, hs⟩⟩, fun fs hl => c2.trans (X0.ireturnOut hexec hret rfl (Or.inr (Or.inl rfl)) (hb hbytes d6) hl)⟩
  · have c2 : Steps p.tables e below (s₁.setTop (entryFrame m #[.ref x, .ref y] 3)) (s₁.setTop (mkF m 8 #[.val (.ref x), .val (.ref y), .unset] [.ref y])) := c1.trans (by
      refine acmpYes X0.here hexec rfl (pc0 := 2) rfl (hb hbytes d2) rfl rfl rfl (by simp [acmp, hxy]) (by decide) rfl ?_
      refine XS.aloadN X0.here hexec rfl (hb hbytes d7) rfl rfl ?_
      exact Steps.refl _)
    obtain ⟨T3, X3, q3, st3⟩ := cinst X0 hexec hown (wk W (.classLink "java/lang/String" 10 "java/lang/String")) (hy.mv X0.warmed.alike hh0).1 (g := (mkF m 8 #[.val (.ref x), .val (.ref y), .unset] [.ref y])) rfl (rest := []) rfl (hb hbytes d8)
    have hh3 := q3.trans hh0
    have c4 : Steps p.tables e below (s₁.setTop (entryFrame m #[.ref x, .ref y] 3)) (T3.setTop (mkF m 15 #[.val (.ref x), .val (.ref y), .unset] [.ref y])) := (c2.trans (st3 _ (Steps.refl _))).trans (by
      refine XS.ifNo X3.here hexec rfl (hb hbytes d11) rfl (i0_eq_f (by decide)) ?_
      refine XS.aloadN X3.here hexec rfl (hb hbytes d14) rfl rfl ?_
      exact Steps.refl _)
    obtain ⟨T5, X5, q5, st5⟩ := cself X3 hexec hown (wk W (.classLink "java/lang/String" 10 "java/lang/String")) (hy.mv X3.warmed.alike hh3).1 (g := (mkF m 15 #[.val (.ref x), .val (.ref y), .unset] [.ref y])) rfl (rest := []) rfl (hb hbytes d15)
    have hh5 := q5.trans hh3
    have c6 : Steps p.tables e below (s₁.setTop (entryFrame m #[.ref x, .ref y] 3)) (T5.setTop (mkF m 19 #[.val (.ref x), .val (.ref y), .val (.ref y)] [])) := (c4.trans (st5 _ (Steps.refl _))).trans (by
      refine XS.astoreN X5.here hexec rfl (hb hbytes d18) rfl rfl rfl ?_
      exact Steps.refl _)
    obtain ⟨T7, X7, q7, st7⟩ := X5.sget hexec hown (wk W (.fieldLink "java/lang/String" 38 "java/lang/String" "COMPACT_STRINGS" "Z")) s1 (fun _ _ h => by rw [hh5]; exact h) (g := (mkF m 19 #[.val (.ref x), .val (.ref y), .val (.ref y)] [])) rfl (hb hbytes d19)
    have hh7 := q7.trans hh5
    have c8 : Steps p.tables e below (s₁.setTop (entryFrame m #[.ref x, .ref y] 3)) (T7.setTop (mkF m 26 #[.val (.ref x), .val (.ref y), .val (.ref y)] [.ref x])) := (c6.trans (st7 _ (Steps.refl _))).trans (by
      refine XS.ifNo X7.here hexec rfl (hb hbytes d22) rfl (i0_eq_f hz) ?_
      refine XS.aloadN X7.here hexec rfl (hb hbytes d25) rfl rfl ?_
      exact Steps.refl _)
    obtain ⟨T9, X9, q9, st9⟩ := X7.hget hexec hown (wk W (.fieldLink "java/lang/String" 15 "java/lang/String" "coder" "B")) (hx.mv X7.warmed.alike hh7).2.2.1 (g := (mkF m 26 #[.val (.ref x), .val (.ref y), .val (.ref y)] [.ref x])) rfl (rest := []) rfl (hb hbytes d26)
    have hh9 := q9.trans hh7
    have c10 : Steps p.tables e below (s₁.setTop (entryFrame m #[.ref x, .ref y] 3)) (T9.setTop (mkF m 30 #[.val (.ref x), .val (.ref y), .val (.ref y)] [.ref y, .int cd])) := (c8.trans (st9 _ (Steps.refl _))).trans (by
      refine XS.aloadN X9.here hexec rfl (hb hbytes d29) rfl rfl ?_
      exact Steps.refl _)
    obtain ⟨T11, X11, q11, st11⟩ := X9.hget hexec hown (wk W (.fieldLink "java/lang/String" 15 "java/lang/String" "coder" "B")) (hy.mv X9.warmed.alike hh9).2.2.1 (g := (mkF m 30 #[.val (.ref x), .val (.ref y), .val (.ref y)] [.ref y, .int cd])) rfl (rest := [.int cd]) rfl (hb hbytes d30)
    have hh11 := q11.trans hh9
    have c12 : Steps p.tables e below (s₁.setTop (entryFrame m #[.ref x, .ref y] 3)) (T11.setTop (mkF m 33 #[.val (.ref x), .val (.ref y), .val (.ref y)] [.int cd', .int cd])) := c10.trans (st11 _ (Steps.refl _))
    by_cases hcd : cd = cd'
    · subst hcd
      have c13 : Steps p.tables e below (s₁.setTop (entryFrame m #[.ref x, .ref y] 3)) (T11.setTop (mkF m 37 #[.val (.ref x), .val (.ref y), .val (.ref y)] [.ref x])) := c12.trans (by
        refine XS.icmpNo X11.here hexec rfl (hb hbytes d33) rfl (ii_ne_f rfl) ?_
        refine XS.aloadN X11.here hexec rfl (hb hbytes d36) rfl rfl ?_
        exact Steps.refl _)
      obtain ⟨T14, X14, q14, st14⟩ := X11.hget hexec hown (wk W (.fieldLink "java/lang/String" 9 "java/lang/String" "value" "[B")) (hx.mv X11.warmed.alike hh11).2.1 (g := (mkF m 37 #[.val (.ref x), .val (.ref y), .val (.ref y)] [.ref x])) rfl (rest := []) rfl (hb hbytes d37)
      have hh14 := q14.trans hh11
      have c15 : Steps p.tables e below (s₁.setTop (entryFrame m #[.ref x, .ref y] 3)) (T14.setTop (mkF m 41 #[.val (.ref x), .val (.ref y), .val (.ref y)] [.ref y, .ref t])) := (c13.trans (st14 _ (Steps.refl _))).trans (by
        refine XS.aloadN X14.here hexec rfl (hb hbytes d40) rfl rfl ?_
        exact Steps.refl _)
      obtain ⟨T16, X16, q16, st16⟩ := X14.hget hexec hown (wk W (.fieldLink "java/lang/String" 9 "java/lang/String" "value" "[B")) (hy.mv X14.warmed.alike hh14).2.1 (g := (mkF m 41 #[.val (.ref x), .val (.ref y), .val (.ref y)] [.ref y, .ref t])) rfl (rest := [.ref t]) rfl (hb hbytes d41)
      have hh16 := q16.trans hh14
      have c17 : Steps p.tables e below (s₁.setTop (entryFrame m #[.ref x, .ref y] 3)) (T16.setTop (mkF m 44 #[.val (.ref x), .val (.ref y), .val (.ref y)] [.ref t', .ref t])) := c15.trans (st16 _ (Steps.refl _))
      obtain ⟨v18, T18, X18, E18, g18⟩ := X16.callS hexec (LEq.law l t V t' V') hown (wks W (staticW "java/lang/String" 541 LEq.yN)) (wk W LEq.tab) (W := 0) (Nat.le_of_ble_eq_true rfl) (Nat.le_of_ble_eq_true rfl) (Nat.le_refl _) (Nat.le_refl _) (g := (mkF m 44 #[.val (.ref x), .val (.ref y), .val (.ref y)] [.ref t', .ref t])) rfl (by rw [hml]; rfl) c17 (argsL := [.ref t, .ref t']) (rest := []) rfl rfl (by show 2 * 0 + 0 ≤ _; decide) (hb hbytes d44) (⟨rfl, hx.2.2.2.1.mv X16.warmed.alike hh16, hx.2.2.2.2.1.ty, hy.2.2.2.1.mv X16.warmed.alike hh16, hy.2.2.2.2.1.ty⟩)
      obtain ⟨v, rfl, q18, hv⟩ := E18
      have iff := Cod.eqv hx.2.2.2.2.1 hy.2.2.2.2.1 hx.2.2.2.2.2 hy.2.2.2.2.2
      rcases hv with ⟨rfl, he⟩ | ⟨rfl, he⟩
      · have c19 : Steps p.tables e below (s₁.setTop (entryFrame m #[.ref x, .ref y] 3)) (T18.setTop (mkF m 55 #[.val (.ref x), .val (.ref y), .val (.ref y)] [.int 1])) := Steps.trans g18 (by
          refine XS.ifNo X18.here hexec rfl (hb hbytes d47) rfl (i0_eq_f (by decide)) ?_
          refine iconstV X18.here hexec rfl 1 (hb hbytes d50) (by decide) ?_
          refine XS.goto X18.here hexec rfl (pc0 := 51) rfl (hb hbytes d51) (by decide) rfl ?_
          exact Steps.refl _)
        exact ⟨T18, some (.int 1), _, _, _, X18, rfl, rfl, rfl, (fun h => by cases h), ⟨1, rfl, q18.trans hh16, Or.inl ⟨rfl, iff.mp he⟩⟩, fun fs hl => c19.trans (X18.ireturnOut hexec hret rfl (Or.inr (Or.inl rfl)) (hb hbytes d55) hl)⟩
      · have c19 : Steps p.tables e below (s₁.setTop (entryFrame m #[.ref x, .ref y] 3)) (T18.setTop (mkF m 55 #[.val (.ref x), .val (.ref y), .val (.ref y)] [.int 0])) := Steps.trans g18 (by
          refine XS.ifYes X18.here hexec rfl (pc0 := 47) rfl (hb hbytes d47) rfl (i0_eq_t rfl) (by decide) rfl ?_
          refine iconstV X18.here hexec rfl 0 (hb hbytes d54) (by decide) ?_
          exact Steps.refl _)
        exact ⟨T18, some (.int 0), _, _, _, X18, rfl, rfl, rfl, (fun h => by cases h), ⟨0, rfl, q18.trans hh16, Or.inr ⟨rfl, fun q => he (iff.mpr q)⟩⟩, fun fs hl => c19.trans (X18.ireturnOut hexec hret rfl (Or.inr (Or.inl rfl)) (hb hbytes d55) hl)⟩
    · have c13 : Steps p.tables e below (s₁.setTop (entryFrame m #[.ref x, .ref y] 3)) (T11.setTop (mkF m 55 #[.val (.ref x), .val (.ref y), .val (.ref y)] [.int 0])) := c12.trans (by
        refine XS.icmpYes X11.here hexec rfl (pc0 := 33) rfl (hb hbytes d33) rfl (ii_ne_t hcd) (by decide) rfl ?_
        refine iconstV X11.here hexec rfl 0 (hb hbytes d54) (by decide) ?_
        exact Steps.refl _)
      exact ⟨T11, some (.int 0), _, _, _, X11, rfl, rfl, rfl, (fun h => by cases h), ⟨0, rfl, hh11, Or.inr ⟨rfl, Cod.dif hx.2.2.2.2.1 hy.2.2.2.2.1 hcd⟩⟩, fun fs hl => c13.trans (X11.ireturnOut hexec hret rfl (Or.inr (Or.inl rfl)) (hb hbytes d55) hl)⟩
theorem pays {l : Launch} {R : Room} {p : Program} {e : Env} {below : List Frame} {s : State} {sargs : Array Value} {len W : Nat} (x t : Addr) (V : Cell) (cd : Int32) (n : Nat) (f : Nat → Int32) (y t' : Addr) (V' : Cell) (cd' : Int32) (k : Nat) (g : Nat → Int32) (z : Int32) (htab : tab.before sargs s = true) (hfr : 2 ≤ R.frames) (hlo : W + 28 ≤ R.locals) :
    Back l R p e below s sargs yN len W (fun A₁ a₁ => A₁.cells + 0 ≤ R.cells ∧ A₁.slots + 0 ≤ R.slots ∧ P x t V cd n f y t' V' cd' k g z a₁ A₁.U) (fun A₁ _ v₁ B₁ => Says01 (SameT n f k g) v₁ A₁.U B₁.U ∧ B₁.locs = A₁.locs ++ [] ∧ B₁.cells = A₁.cells + 0 ∧ B₁.slots = A₁.slots + 0) :=
  (law l x t V cd n f y t' V' cd' k g z).pays htab hfr (by omega)
end SEq
end StrChars
namespace StrChars.Road
open Jvm Sem ClassFile Op Lib Jvm.Stand Jvm.Free Jvm.Free.XT
open Jvm.Lib.Cold (StaticIs)
/-- the words of String.isEmpty() -/
abbrev wordsEmp : List Jvm.Cond := [.code Emp.yN Emp.yB 1 (some .boolean), .initialized ST, .fieldLink ST 9 ST "value" "[B"]
theorem tabEmp_of {a : Array Value} {s : State} (h : ∀ w ∈ wordsEmp, w.before a s = true) : Emp.tab.before a s = true := unparts (wk h (.code Emp.yN Emp.yB 1 (some .boolean))) (wks h (.initialized Emp.yN.cls :: Emp.site))
theorem movedEmp {Z s : State} {a0 args : Array Value} (hZ : Z.Warmed39 s.vm) (hw : ∀ d ∈ wordsEmp, d.before a0 Z = true) : ∀ d ∈ wordsEmp, d.before args s = true := fun d hd => by
  have t : ∀ d ∈ wordsEmp, (d.onTables && d.keepsFace) = true := by decide +kernel
  exact RoadKit.mv hZ (hw d hd) (t d hd)
/-- the words of String.equals(Object) -/
abbrev wordsEq : List Jvm.Cond := [.code SEq.yN SEq.yB 3 (some .boolean), .initialized ST, .classLink ST 10 ST, .fieldLink ST 38 ST "COMPACT_STRINGS" "Z", .fieldLink ST 15 ST "coder" "B", .fieldLink ST 9 ST "value" "[B", .methodLink ST 541 LEq.yN, .static LEq.yN, .code LEq.yN LEq.yB 3 (some .boolean), .initialized "java/lang/StringLatin1"]
theorem tabEq_of {a : Array Value} {s : State} (h : ∀ w ∈ wordsEq, w.before a s = true) : SEq.tab.before a s = true := by
  have hl : LEq.tab.before a s = true := unparts (wk h (.code LEq.yN LEq.yB 3 (some .boolean))) (wks h (.initialized LEq.yN.cls :: LEq.site))
  have q := consq hl h
  exact unparts (wk q (.code SEq.yN SEq.yB 3 (some .boolean))) (wks q (.initialized SEq.yN.cls :: SEq.site))
theorem movedEq {Z s : State} {a0 args : Array Value} (hZ : Z.Warmed39 s.vm) (hw : ∀ d ∈ wordsEq, d.before a0 Z = true) : ∀ d ∈ wordsEq, d.before args s = true := fun d hd => by
  have t : ∀ d ∈ wordsEq, (d.onTables && d.keepsFace) = true := by decide +kernel
  exact RoadKit.mv hZ (hw d hd) (t d hd)
/-- the road's facts of a String, as the laws ask it -/
theorem txt_of {Z U : State} {a0 : Array Value} {kI : Nat} (wi : (Jvm.Cond.instantiable ST kI).before a0 Z = true) (al : Z.vm.Alike U.vm) {x t : Addr} {kb : ClassId} {cs : List Int32} {cd N2 : Int32} {vs : List Value} (E : RoadKit.Exa Z U.heap x ST) (V : RoadKit.Fld Z U.heap x ST "value" "[B" (.ref t)) (C : RoadKit.Fld Z U.heap x ST "coder" "B" (.int cd)) (K : RoadKit.Arv Z U.heap t kb .byte N2 vs (.int 0)) (hc : CodA cs cd N2 vs) (hb : ∀ c ∈ cs, ¬ c < 0 ∧ ¬ (65535 : Int32) < c) (l2 : cs.length ≤ 4000) :
    ∃ A, Txt x t A cd cs.length (fun j => cs.getD j 0) U := by
  obtain ⟨A, K1, K2, K3, K4, K5, K6⟩ := K
  have hcod := hc.cod (by omega) K3 K5
  obtain ⟨D, fV, fC, hB, F1, F2, g1, g2, -, -⟩ := strObj wi al E V C
  exact ⟨A, ⟨_, hB.2.2.1, D, hB.1, rfl, by cases q : D.vm <;> first | rfl | exact absurd q (hB.2.1.2 _)⟩, Has.of hB F1 g1, Has.of hB F2 g2, ⟨K1.1, State.isArrayOf_alike al K1.2.1, K1.2.2, by rcases hcod with ⟨-, q, -⟩ | ⟨-, q, -⟩ <;> omega⟩, hcod, fun j hj => by
    have e : cs.getD j 0 = cs[j] := by simp [List.getD_eq_getElem?_getD, hj]
    show ¬ cs.getD j 0 < 0 ∧ ¬ 65535 < cs.getD j 0
    rw [e]; exact hb _ (List.getElem_mem _)⟩
theorem same_list (cs ds : List Int32) : SameT cs.length (fun j => cs.getD j 0) ds.length (fun j => ds.getD j 0) ↔ cs = ds := by
  constructor
  · rintro ⟨e, q⟩
    refine List.ext_getElem e fun j h1 h2 => ?_
    have := q j h1
    simpa [List.getD_eq_getElem?_getD, h1, h2] using this
  · rintro rfl
    exact ⟨rfl, fun _ _ => rfl⟩
/-- **isEmpty() OF SUCH A STRING** -/
theorem empW {p : Program} {l : Launch} {e : Env} {R : Room} {s : State} {args : Array Value} {below : List Frame} {len W : Nat} {Z : State} {a0 : Array Value} {h : Heap} (hZ : Z.Warmed39 s.vm) (hw : ∀ d ∈ wordsEmp, d.before a0 Z = true) {kI : Nat} (wi : (Jvm.Cond.instantiable ST kI).before a0 Z = true)
    {x t : Addr} {kb : ClassId} {cs : List Int32} {cd N2 : Int32} {vs : List Value} (E : RoadKit.Exa Z h x ST) (V : RoadKit.Fld Z h x ST "value" "[B" (.ref t)) (C : RoadKit.Fld Z h x ST "coder" "B" (.int cd)) (K : RoadKit.Arv Z h t kb .byte N2 vs (.int 0)) (hc : CodA cs cd N2 vs) (hb : ∀ c ∈ cs, ¬ c < 0 ∧ ¬ (65535 : Int32) < c) (l2 : cs.length ≤ 4000) (hfr : 1 ≤ R.frames) (hlo : W + 12 ≤ R.locals) :
    Back l R p e below s args (⟨"java/lang/String", "isEmpty", "()Z"⟩ : MethodName) len W (fun P a => a = #[.ref x] ∧ P.U.heap = h ∧ P.cells + 0 ≤ R.cells ∧ P.slots + 0 ≤ R.slots)
      (fun P _ v B => ∃ L, (v = some (.int (if cs.length = 0 then 1 else 0)) ∧ L = [] ∧ B.U.heap = h) ∧ B.locs = P.locs ++ L ∧ B.cells = P.cells + 0 ∧ B.slots = P.slots + 0) := by
  intro m meth c P g ig mk a X hg hsize hdg hW hn hp'
  obtain ⟨rfl, rfl, r1, r2⟩ := hp'
  have al : Z.vm.Alike P.U.vm := hZ.alike.trans X.warmed.alike
  obtain ⟨A, hx⟩ := txt_of wi al E V C K hc hb l2
  obtain ⟨v, B, X', ⟨⟨hv, hh⟩, hl, hk, hs⟩, st⟩ := Emp.pays x t A cd cs.length (fun j => cs.getD j 0) (tabEmp_of (movedEmp hZ hw)) hfr hlo m meth c P g ig mk _ X hg hsize hdg hW hn ⟨r1, r2, rfl, hx⟩
  exact ⟨v, B, X', ⟨[], ⟨hv, rfl, hh⟩, hl, hk, hs⟩, st⟩
/-- **equals(Object) OF TWO SUCH STRINGS**: 1 just where the chars are the same -/
theorem eqW {p : Program} {l : Launch} {e : Env} {R : Room} {s : State} {args : Array Value} {below : List Frame} {len W : Nat} {Z : State} {a0 : Array Value} {h : Heap} (hZ : Z.Warmed39 s.vm) (hw : ∀ d ∈ wordsEq, d.before a0 Z = true) {kI : Nat} (wi : (Jvm.Cond.instantiable ST kI).before a0 Z = true)
    {x t : Addr} {kb : ClassId} {cs : List Int32} {cd N2 : Int32} {vs : List Value} (E : RoadKit.Exa Z h x ST) (V : RoadKit.Fld Z h x ST "value" "[B" (.ref t)) (C : RoadKit.Fld Z h x ST "coder" "B" (.int cd)) (K : RoadKit.Arv Z h t kb .byte N2 vs (.int 0)) (hc : CodA cs cd N2 vs) (hb : ∀ c ∈ cs, ¬ c < 0 ∧ ¬ (65535 : Int32) < c) (l2 : cs.length ≤ 4000)
    {y t' : Addr} {kb' : ClassId} {ds : List Int32} {cd' N2' : Int32} {vs' : List Value} (E' : RoadKit.Exa Z h y ST) (V' : RoadKit.Fld Z h y ST "value" "[B" (.ref t')) (C' : RoadKit.Fld Z h y ST "coder" "B" (.int cd')) (K' : RoadKit.Arv Z h t' kb' .byte N2' vs' (.int 0)) (hc' : CodA ds cd' N2' vs') (hb' : ∀ c ∈ ds, ¬ c < 0 ∧ ¬ (65535 : Int32) < c) (l2' : ds.length ≤ 4000)
    {z : Int32} (S : RoadKit.Sta Z h ST "COMPACT_STRINGS" "Z" (.int z)) (hz : ¬ z = 0) (hfr : 2 ≤ R.frames) (hlo : W + 28 ≤ R.locals) :
    Back l R p e below s args (⟨"java/lang/String", "equals", "(Ljava/lang/Object;)Z"⟩ : MethodName) len W (fun P a => a = #[.ref x, .ref y] ∧ P.U.heap = h ∧ P.cells + 0 ≤ R.cells ∧ P.slots + 0 ≤ R.slots)
      (fun P _ v B => ∃ L, (((v = some (.int 1) ∧ cs = ds) ∨ (v = some (.int 0) ∧ ¬ cs = ds)) ∧ L = [] ∧ B.U.heap = h) ∧ B.locs = P.locs ++ L ∧ B.cells = P.cells + 0 ∧ B.slots = P.slots + 0) := by
  intro m meth c P g ig mk a X hg hsize hdg hW hn hp'
  obtain ⟨rfl, rfl, r1, r2⟩ := hp'
  have al : Z.vm.Alike P.U.vm := hZ.alike.trans X.warmed.alike
  obtain ⟨A, hx⟩ := txt_of wi al E V C K hc hb l2
  obtain ⟨A', hy⟩ := txt_of wi al E' V' C' K' hc' hb' l2'
  obtain ⟨v, B, X', ⟨⟨w, hv, hh, hq⟩, hl, hk, hs⟩, st⟩ := SEq.pays x t A cd cs.length (fun j => cs.getD j 0) y t' A' cd' ds.length (fun j => ds.getD j 0) z (tabEq_of (movedEq hZ hw)) hfr hlo m meth c P g ig mk _ X hg hsize hdg hW hn ⟨r1, r2, rfl, hx, hy, sta_is al S, hz⟩
  refine ⟨v, B, X', ⟨[], ⟨?_, rfl, hh⟩, hl, hk, hs⟩, st⟩
  rcases hq with ⟨rfl, q⟩ | ⟨rfl, q⟩
  · exact Or.inl ⟨hv, (same_list cs ds).mp q⟩
  · exact Or.inr ⟨hv, fun e => q ((same_list cs ds).mpr e)⟩
end StrChars.Road
namespace StrChars.Road
open Jvm Sem ClassFile Op Lib Jvm.Stand Jvm.Free Jvm.Free.XT
open Jvm.Lib.Cold (StaticIs)
/-- what backV says of its String, as the contracts of this text ask it: cs's low bytes, coder 0 -/
theorem codOf {cs : List Int32} {n : Nat} (hn : cs.length = n) (hb : ∀ c ∈ cs, ¬ 255 < c) : CodA cs 0 (Int32.ofNat n) ((cs.map lo8).map Value.int) := Or.inl ⟨rfl, by rw [hn], by simp [List.map_map, Function.comp_def], hb⟩
end StrChars.Road
end Jvm.Pilot.@@N@@
namespace Jvm.Pilot.@@N@@
open Jvm Jvm.ClassFile Sem Op Lib Jvm.Free Jvm.Stand Jvm.LawKit Jvm.RoadKit Jvm.OwnKit Bundle Jvm.Pilot.@@N@@.Jvm.D
theorem own_up (cs : List Int32) (h : ∀ c ∈ cs, ¬ c < 0 ∧ ¬ (255 : Int32) < c) : ∀ c ∈ cs, ¬ c < 0 ∧ ¬ (65535 : Int32) < c := fun c hc => ⟨(h c hc).1, fun q => (h c hc).2 (by rw [Int32.lt_iff_toInt_lt] at q ⊢; have e1 : (65535 : Int32).toInt = 65535 := rfl; have e2 : (255 : Int32).toInt = 255 := rfl; omega)⟩
theorem own_toInt16 (x : Int32) : x.toUInt32.toUInt16.toUInt32.toInt32.toInt = x.toInt % 65536 := by
  have h : (x.toUInt32.toUInt16.toUInt32.toInt32).toBitVec.toNat = x.toBitVec.toNat % 65536 := by simp
  have h2 : (x.toUInt32.toUInt16.toUInt32.toInt32).toBitVec.toNat < 65536 := by rw [h]; exact Nat.mod_lt _ (by decide)
  have e1 : (x.toUInt32.toUInt16.toUInt32.toInt32).toInt = ((x.toUInt32.toUInt16.toUInt32.toInt32).toBitVec.toNat : Int) := by
    rw [← Int32.toInt_toBitVec, BitVec.toInt_eq_toNat_of_lt (by omega)]
  rw [e1, h, ← Int32.toInt_toBitVec, BitVec.toInt_eq_toNat_bmod, Int.bmod_def]
  split <;> omega
theorem own_nar {c : Int32} (h0 : ¬ c < 0) (h1 : ¬ (65535 : Int32) < c) : nar .char c = c := by
  have e0 : c.toUInt32.toUInt16.toUInt32.toInt32 = c := by
    apply Int32.toInt_inj.mp
    rw [own_toInt16]
    rw [Int32.lt_iff_toInt_lt] at h0 h1
    have z : (0 : Int32).toInt = 0 := rfl
    have y : (65535 : Int32).toInt = 65535 := rfl
    omega
  exact e0
theorem own_hws {a0 : Array Value} {Z : State} (hw : ∀ d ∈ tables_1, d.before a0 Z = true) : ∀ d ∈ StrChars.Road.words, d.before a0 Z = true := fun d hd => hw d ((by decide +kernel : ∀ d ∈ StrChars.Road.words, d ∈ tables_1) d hd)
theorem own_heq {a0 : Array Value} {Z : State} (hw : ∀ d ∈ tables_1, d.before a0 Z = true) : ∀ d ∈ StrChars.Road.wordsEq, d.before a0 Z = true := fun d hd => hw d ((by decide +kernel : ∀ d ∈ StrChars.Road.wordsEq, d ∈ tables_1) d hd)
theorem own_hem {a0 : Array Value} {Z : State} (hw : ∀ d ∈ tables_1, d.before a0 Z = true) : ∀ d ∈ StrChars.Road.wordsEmp, d.before a0 Z = true := fun d hd => hw d ((by decide +kernel : ∀ d ∈ StrChars.Road.wordsEmp, d ∈ tables_1) d hd)
theorem own_l1 (c0 d0 : Int32) : ([d0] : List Int32) = [c0] ↔ c0 = d0 := by simp [eq_comm]
theorem own_l2 (c0 c1 d0 d1 : Int32) : ([d0, d1] : List Int32) = [c0, c1] ↔ c0 = d0 ∧ c1 = d1 := by simp [eq_comm]
theorem own_l12 (c0 d0 d1 : Int32) : ¬ ([d0, d1] : List Int32) = [c0] := by simp
theorem own_l21 (c0 c1 d0 : Int32) : ¬ ([d0] : List Int32) = [c0, c1] := by simp
theorem own_bpc (A B : List Int32) (p q : Int32) : bP (A = B ∧ p = q) = bP (B = A ∧ q = p) := by
  by_cases h : A = B ∧ p = q
  · rw [bP_t h, bP_t ⟨h.1.symm, h.2.symm⟩]
  · rw [bP_f h, bP_f fun g => h ⟨g.1.symm, g.2.symm⟩]
theorem own_m1 (x : Int32) : (1 : Int32) + (x &&& (1 : Int32)) = (1 : Int32) ∨ (1 : Int32) + (x &&& (1 : Int32)) = (2 : Int32) := by
  have hm : (x &&& (1 : Int32)).toInt = x.toInt % 2 ^ 1 := Jvm.Kit.i32_mask x _ (k := 1) (by decide) (by decide)
  rcases (by omega : (x &&& (1 : Int32)).toInt = 0 ∨ (x &&& (1 : Int32)).toInt = 1) with h | h
  · have e : x &&& (1 : Int32) = 0 := Int32.toInt_inj.mp h
    rw [e]; exact Or.inl (by decide)
  · have e : x &&& (1 : Int32) = 1 := Int32.toInt_inj.mp h
    rw [e]; exact Or.inr (by decide)
theorem own_ch (x : Int32) : ¬ ((x &&& (255 : Int32)).toUInt32.toUInt16.toUInt32.toInt32) < 0 ∧ ¬ (255 : Int32) < ((x &&& (255 : Int32)).toUInt32.toUInt16.toUInt32.toInt32) := by
  have hm : (x &&& (255 : Int32)).toInt = x.toInt % 2 ^ 8 := Jvm.Kit.i32_mask x _ (k := 8) (by decide) (by decide)
  have z : (0 : Int32).toInt = 0 := rfl
  have y : (255 : Int32).toInt = 255 := rfl
  rw [Int32.lt_iff_toInt_lt, Int32.lt_iff_toInt_lt, own_toInt16, hm, z, y]
  omega
theorem own_port (x : Int32) : ¬ (((x &&& (2147483647 : Int32)) % (65535 : Int32)) + (1 : Int32)) < (1 : Int32) ∧ ¬ (65535 : Int32) < (((x &&& (2147483647 : Int32)) % (65535 : Int32)) + (1 : Int32)) := by
  have hm : (x &&& (2147483647 : Int32)).toInt = x.toInt % 2 ^ 31 := Jvm.Kit.i32_mask x _ (k := 31) (by decide) (by decide)
  have hr : ((x &&& (2147483647 : Int32)) % (65535 : Int32)).toInt = (x &&& (2147483647 : Int32)).toInt % (65535 : Int32).toInt := Jvm.Kit.i32_rem_nonneg (by omega)
  have z : (1 : Int32).toInt = 1 := rfl
  have y : (65535 : Int32).toInt = 65535 := rfl
  rw [hm, y] at hr
  have ha : (((x &&& (2147483647 : Int32)) % (65535 : Int32)) + (1 : Int32)).toInt = ((x &&& (2147483647 : Int32)) % (65535 : Int32)).toInt + (1 : Int32).toInt := Jvm.Kit.i32_add (by omega) (by omega)
  rw [Int32.lt_iff_toInt_lt, Int32.lt_iff_toInt_lt, ha, hr, z, y]
  omega
theorem own_nsRoot {Z : State} {a0 : Array Value} {O K : String} {n : Nat} (w : (Jvm.Cond.noSuperclass O).before a0 Z = true) (wk : (Jvm.Cond.instantiable K n).before a0 Z = true) (hn : O ≠ K) : NS Z O K := by
  obtain ⟨c, k, h1, h2, h3, -, -⟩ := Cond.noSuperclass_spec w
  obtain ⟨t, k', g1, -⟩ := Cond.instantiable_spec wk
  have ne := ids_ne h1 g1 hn
  refine ⟨c, t, h1, g1, fun fuel => ?_⟩
  cases fuel with
  | zero => rfl
  | succ f => simp [Vm.isSubclassAux, ne, h2, h3]
theorem own_nsNo {Z : State} {a0 : Array Value} {C S K : String} {n : Nat} (w : (Jvm.Cond.superclass C S).before a0 Z = true) (wk : (Jvm.Cond.instantiable K n).before a0 Z = true) (q : NS Z C K) (hn : C ≠ K) : ∃ c t, Z.vm.findClass C = some c ∧ Z.vm.findClass K = some t ∧ Z.vm.assignable c t = false := by
  obtain ⟨c, t, h0, g0, n3⟩ := q
  obtain ⟨p, k, kp, h1, h2, h3, h4, h5, -, h7⟩ := Cond.superclass_spec h0 w
  obtain ⟨t', k', g1, g2, g5, g7, -⟩ := Cond.instantiable_spec wk
  cases g0.symm.trans g1
  have g7' : k'.isInterface = false := by simp at g7; exact g7.1
  have ne := ids_ne h0 g0 hn
  refine ⟨c, t, h0, g0, ?_⟩
  show Z.vm.assignableAux (255 + 1) c t = false
  simp [Vm.assignableAux, ne, h2, g2, h5, g5, g7', Vm.isSubclass, n3]
theorem own_len {Z : State} {a0 : Array Value} {t : Term} {a : Addr} {cl : Cell} {ty : FieldType} (A : Arr Z Z.heap a cl ty) (et : t.eval a0 Z none [] Z = some (.ref a)) (h : (Term.length t).eval a0 Z none [] Z = some (.int (256 : Int32))) : cl.slots.size = 256 := by
  have q := A.fin (Vm.Alike.refl _)
  simp only [Term.eval, Option.bind_eq_bind, et, Option.bind_some, q] at h
  split at h
  · rename_i hs
    have h := Value.int.inj (Option.some.inj h)
    have h2 := congrArg Int32.toInt h
    rw [len_toInt hs] at h2
    have e : (256 : Int32).toInt = 256 := rfl
    omega
  · cases h
theorem own_all {Z : State} {a0 : Array Value} {C n d K : String} {D : Cond} {a : Addr} {cl : Cell} {ty : FieldType} (A : Arr Z Z.heap a cl ty) (et : (Term.static C n d).eval a0 Z none [] Z = some (.ref a)) (hs : cl.slots.size = 256)
    (h : (Cond.all (Term.static C n d) (.and (.exactly (.elem (Term.static C n d) (.index 0)) K) D)).value a0 Z none Z [] = some true) : ∀ j : Nat, j < 256 → ∃ r, cl.slots[j]? = some (.ref r) ∧ Exa Z Z.heap r K := by
  intro j hj
  have et' : ∀ idx, (Term.static C n d).eval a0 Z none idx Z = some (.ref a) := fun idx => by
    simp only [Term.eval] at et ⊢; exact et
  have nj : (Int32.ofNat j).toNatClampNeg = j := by
    show (Int32.ofNat j).toInt.toNat = j
    rw [Int32.toInt_ofNat_small (by omega)]; rfl
  have nn : ¬ Int32.ofNat j < 0 := by
    rw [Int32.lt_iff_toInt_lt, Int32.toInt_ofNat_small (by omega)]
    have e : (0 : Int32).toInt = 0 := rfl
    omega
  obtain ⟨u1, u2⟩ := and_e (Cond.all_elim et (A.fin (Vm.Alike.refl _)) h j (by omega))
  obtain ⟨box, eb⟩ := exa_v u1
  have nx := idx_at (args := a0) (first := Z) (s := Z) (o := none) nn
  rw [nj] at nx
  have ex := (elem_f (et' _) nx (A.fin (Vm.Alike.refl _)) nn).symm.trans eb
  rw [nj] at ex
  exact ⟨box, ex, exa_at eb u1⟩
def QA (Z : State) (n0 : Nat) (h0 : Heap) (a x : Addr) (port : Int32) (v : Option Value) (h : Heap) (_ : Vm) (L : List Loc) : Prop := v = none ∧ Fr n0 L ∧ Keep h0 h [a] ∧ Exa Z h a "com/example/minho/minho/core/Address" ∧ Fld Z h a "com/example/minho/minho/core/Address" "m_host" "Ljava/lang/String;" (.ref x) ∧ Fld Z h a "com/example/minho/minho/core/Address" "m_port" "I" (.int port)
theorem pn_com_example_minho_minho_core_Address : plainName "com/example/minho/minho/core/Address" = true := by first | (simp [plainName, overriddenIn]; done) | decide +kernel
theorem d7_0 : decode prog_4_method_1_code 0 = .ok (.aload_n 0, 1) := by decide +kernel
theorem d7_1 : decode prog_4_method_1_code 1 = .ok (.invokespecial 1, 3) := by decide +kernel
theorem d7_4 : decode prog_4_method_1_code 4 = .ok (.aload_n 1, 1) := by decide +kernel
theorem d7_5 : decode prog_4_method_1_code 5 = .ok (.ifnull 21, 3) := by decide +kernel
theorem d7_8 : decode prog_4_method_1_code 8 = .ok (.aload_n 1, 1) := by decide +kernel
theorem d7_9 : decode prog_4_method_1_code 9 = .ok (.invokevirtual 7, 3) := by decide +kernel
theorem pd_0 : parseMethodDescriptor "()Z" = some ⟨[], some .boolean⟩ := by decide +kernel
theorem d7_12 : decode prog_4_method_1_code 12 = .ok (.ifCond .ne 14, 3) := by decide +kernel
theorem d7_15 : decode prog_4_method_1_code 15 = .ok (.iload_n 2, 1) := by decide +kernel
theorem d7_16 : decode prog_4_method_1_code 16 = .ok (.iconst 1, 1) := by decide +kernel
theorem d7_17 : decode prog_4_method_1_code 17 = .ok (.if_icmp .lt 9, 3) := by decide +kernel
theorem d7_20 : decode prog_4_method_1_code 20 = .ok (.iload_n 2, 1) := by decide +kernel
theorem d7_21 : decode prog_4_method_1_code 21 = .ok (.ldc 13, 2) := by decide +kernel
theorem d7_23 : decode prog_4_method_1_code 23 = .ok (.if_icmp .le 13, 3) := by decide +kernel
theorem d7_36 : decode prog_4_method_1_code 36 = .ok (.aload_n 0, 1) := by decide +kernel
theorem d7_37 : decode prog_4_method_1_code 37 = .ok (.aload_n 1, 1) := by decide +kernel
theorem d7_38 : decode prog_4_method_1_code 38 = .ok (.putfield 23, 3) := by decide +kernel
theorem d7_41 : decode prog_4_method_1_code 41 = .ok (.aload_n 0, 1) := by decide +kernel
theorem d7_42 : decode prog_4_method_1_code 42 = .ok (.iload_n 2, 1) := by decide +kernel
theorem d7_43 : decode prog_4_method_1_code 43 = .ok (.putfield 27, 3) := by decide +kernel
theorem d7_46 : decode prog_4_method_1_code 46 = .ok (.return_, 1) := by decide +kernel
set_option maxRecDepth 65536 in
set_option maxHeartbeats 40000000 in
theorem rmA (l : Launch) (Z : State) (a0 : Array Value) (hw : ∀ d ∈ tables_1, d.before a0 Z = true) (ws : List Jvm.Cond) (a : Addr) (x1 t1 : Addr) (kb1 : ClassId) (cs1 : List Int32) (cd1 N1 : Int32) (vs1 : List Value) (port z : Int32) (h0 : Heap) (n0 : Nat) (Z0 : n0 ≤ h0.size) (Ea : Exa Z h0 a "com/example/minho/minho/core/Address") (Fh : Fld Z h0 a "com/example/minho/minho/core/Address" "m_host" "Ljava/lang/String;" .null) (Fp : Fld Z h0 a "com/example/minho/minho/core/Address" "m_port" "I" (.int (0 : Int32))) (ga : n0 ≤ a) (E1 : Exa Z h0 x1 "java/lang/String") (V1 : Fld Z h0 x1 "java/lang/String" "value" "[B" (.ref t1)) (C1 : Fld Z h0 x1 "java/lang/String" "coder" "B" (.int cd1)) (K1 : Arv Z h0 t1 kb1 .byte N1 vs1 (.int 0)) (hcd1 : StrChars.Road.CodA cs1 cd1 N1 vs1) (hbd1 : ∀ c ∈ cs1, ¬ c < 0 ∧ ¬ (65535 : Int32) < c) (l1 : cs1.length ≤ 4000) (nax : a ≠ x1) (nat : a ≠ t1) (O0 : Old Z n0 h0) (SC : Sta Z Z.heap "java/lang/String" "COMPACT_STRINGS" "Z" (.int z)) (hz : ¬ z = 0) (hne : ¬ cs1.length = 0) (hp1 : ¬ port < (1 : Int32)) (hp2 : ¬ (65535 : Int32) < port) :
    Ctr FrameEnd l Z (⟨"com/example/minho/minho/core/Address", "<init>", "(Ljava/lang/String;I)V"⟩ : MethodName) prog_4_method_1_code 3 none ws ({ frames := 1, cells := 0, slots := 0, locals := 12 } : Room) #[(.ref a), (.ref x1), (.int port)] h0 TrueV (QA Z n0 h0 a x1 port) := by
  refine Ctr.intro (plainFor_of_name pn_com_example_minho_minho_core_Address) (Ls := #[.val (.ref a), .val (.ref x1), .val (.int port)]) (fun m => by first | (simp [entryFrame, mkF, argsToLocals, Value.category]; done) | rfl) ?_
  intro p e s m below meth c T0 hx hby hml hown hnm hret hlk hZ hV hsh e0 X0
  have N0 := Fr.nil n0
  show Done _ p e below s _ _ (T0.setTop (mkF m 0 #[.val (.ref a), .val (.ref x1), .val (.int port)] []))
  refine Done.step (fun _ => XS.aloadN X0.here hx rfl (hb hby d7_0) rfl rfl) ?_
  show Done _ p e below s _ _ (T0.setTop (mkF m 1 #[.val (.ref a), .val (.ref x1), .val (.int port)] [(.ref a)]))
  obtain ⟨T1, X1, e1, st1⟩ := initO X0 hx hZ hown (wAt hw 38 rfl) (wAt hw 17 rfl) (wAt hw 18 rfl) e0 (g := (mkF m 1 #[.val (.ref a), .val (.ref x1), .val (.int port)] [(.ref a)])) rfl (by rw [hml]; rfl) rfl (hb hby d7_1) (by decide) (W := 0) (by show 2 * 0 + _ ≤ _; exact Nat.le_of_eq rfl) (by decide)
  refine Done.step st1 ?_
  show Done _ p e below s _ _ (T1.setTop (mkF m 4 #[.val (.ref a), .val (.ref x1), .val (.int port)] []))
  refine Done.step (fun _ => XS.aloadN X1.here hx rfl (hb hby d7_4) rfl rfl) ?_
  show Done _ p e below s _ _ (T1.setTop (mkF m 5 #[.val (.ref a), .val (.ref x1), .val (.int port)] [(.ref x1)]))
  refine Done.step (fun _ => XS.ifnullNo X1.here hx rfl (hb hby d7_5) rfl) ?_
  show Done _ p e below s _ _ (T1.setTop (mkF m 8 #[.val (.ref a), .val (.ref x1), .val (.int port)] []))
  refine Done.step (fun _ => XS.aloadN X1.here hx rfl (hb hby d7_8) rfl rfl) ?_
  show Done _ p e below s _ _ (T1.setTop (mkF m 9 #[.val (.ref a), .val (.ref x1), .val (.int port)] [(.ref x1)]))
  refine Done.callVB (nc := 0) (ns := 0) (C := "java/lang/String") (z := (⟨"java/lang/String", "isEmpty", "()Z"⟩ : MethodName)) (Qh := (fun v h' L => v = some (.int (if (cs1).length = 0 then 1 else 0)) ∧ L = [] ∧ h' = h0)) X1 hx hZ hown (wAt hw 39 rfl) (wAt hw 40 rfl) (notFace_of_selects (args := #[]) (mvT hZ (wAt hw 42 rfl))) (wAt hw 42 rfl) (wAt hw 41 rfl) (by decide) (StrChars.Road.empW (W := 0) hZ (own_hem hw) (kI := 4) (wAt hw 7 rfl) E1 V1 C1 K1 hcd1 hbd1 l1 (by decide) (by decide)) e1 E1 (g := (mkF m 9 #[.val (.ref a), .val (.ref x1), .val (.int port)] [(.ref x1)])) rfl (by rw [hml]; rfl) [] [] (lenOf pd_0 rfl) rfl rfl (by show 2 * 0 + _ ≤ _; exact Nat.le_of_eq rfl) (hb hby d7_9) (by decide) (by decide) ?_
  intro T2 v2 L2 X2 q2
  obtain ⟨qv2, rfl, e2⟩ := q2
  rw [if_neg hne] at qv2
  subst qv2
  rw [List.append_nil] at X2
  show Done _ p e below s _ _ (T2.setTop (mkF m 12 #[.val (.ref a), .val (.ref x1), .val (.int port)] [(.int (0 : Int32))]))
  refine Done.step (fun _ => XS.ifNo X2.here hx rfl (hb hby d7_12) rfl (XT.i0_ne_f rfl)) ?_
  show Done _ p e below s _ _ (T2.setTop (mkF m 15 #[.val (.ref a), .val (.ref x1), .val (.int port)] []))
  refine Done.step (fun _ => XS.iloadN X2.here hx rfl (hb hby d7_15) rfl) ?_
  show Done _ p e below s _ _ (T2.setTop (mkF m 16 #[.val (.ref a), .val (.ref x1), .val (.int port)] [(.int port)]))
  refine Done.step (fun _ => XT.iconstV X2.here hx rfl (1 : Int32) (hb hby d7_16) (by decide)) ?_
  show Done _ p e below s _ _ (T2.setTop (mkF m 17 #[.val (.ref a), .val (.ref x1), .val (.int port)] [(.int (1 : Int32)), (.int port)]))
  refine Done.step (fun _ => XS.icmpNo X2.here hx rfl (hb hby d7_17) rfl (XT.ii_lt_f hp1)) ?_
  show Done _ p e below s _ _ (T2.setTop (mkF m 20 #[.val (.ref a), .val (.ref x1), .val (.int port)] []))
  refine Done.step (fun _ => XS.iloadN X2.here hx rfl (hb hby d7_20) rfl) ?_
  show Done _ p e below s _ _ (T2.setTop (mkF m 21 #[.val (.ref a), .val (.ref x1), .val (.int port)] [(.int port)]))
  refine Done.step (fun _ => Stand.ldcI X2 hx hown (mvT hZ (wAt hw 44 rfl)) (g := (mkF m 21 #[.val (.ref a), .val (.ref x1), .val (.int port)] [(.int port)])) rfl (hb hby d7_21)) ?_
  show Done _ p e below s _ _ (T2.setTop (mkF m 23 #[.val (.ref a), .val (.ref x1), .val (.int port)] [(.int (65535 : Int32)), (.int port)]))
  refine Done.step (fun _ => XS.icmpYes X2.here hx rfl (pc0 := 23) (pc' := 36) rfl (hb hby d7_23) rfl (XT.ii_le_t hp2) (by decide) (by decide)) ?_
  show Done _ p e below s _ _ (T2.setTop (mkF m 36 #[.val (.ref a), .val (.ref x1), .val (.int port)] []))
  refine Done.step (fun _ => XS.aloadN X2.here hx rfl (hb hby d7_36) rfl rfl) ?_
  show Done _ p e below s _ _ (T2.setTop (mkF m 37 #[.val (.ref a), .val (.ref x1), .val (.int port)] [(.ref a)]))
  refine Done.step (fun _ => XS.aloadN X2.here hx rfl (hb hby d7_37) rfl rfl) ?_
  show Done _ p e below s _ _ (T2.setTop (mkF m 38 #[.val (.ref a), .val (.ref x1), .val (.int port)] [(.ref x1), (.ref a)]))
  obtain ⟨T3, h3, X3, e3, W3, st3⟩ := putF X2 hx hZ hown (host := "") (Or.inl (wAt hw 45 rfl)) Via.refl e2 Fh Ea (Or.inr ⟨(wAt hw 46 rfl), rfl, hnm⟩) (wAt hw 4 rfl) (ty := (.object "java/lang/String")) (by decide) rfl rfl (g := (mkF m 38 #[.val (.ref a), .val (.ref x1), .val (.int port)] [(.ref x1), (.ref a)])) rfl rfl (hb hby d7_38)
  have F3 := Fh.same W3
  have N3 := Fr.snoc X3 N0 ga
  have Zs3 := Nat.le_trans Z0 (Keep.of_wr W3).1
  have K3 := (Keep.refl h0 [a]).wr W3 (Or.inl (List.mem_of_getElem? (i := 0) rfl))
  refine Done.step st3 ?_
  show Done _ p e below s _ _ (T3.setTop (mkF m 41 #[.val (.ref a), .val (.ref x1), .val (.int port)] []))
  refine Done.step (fun _ => XS.aloadN X3.here hx rfl (hb hby d7_41) rfl rfl) ?_
  show Done _ p e below s _ _ (T3.setTop (mkF m 42 #[.val (.ref a), .val (.ref x1), .val (.int port)] [(.ref a)]))
  refine Done.step (fun _ => XS.iloadN X3.here hx rfl (hb hby d7_42) rfl) ?_
  show Done _ p e below s _ _ (T3.setTop (mkF m 43 #[.val (.ref a), .val (.ref x1), .val (.int port)] [(.int port), (.ref a)]))
  have f5 := (Fp.other W3 (Or.inr (slot_ne (Or.inr (wAt hw 48 rfl)) (Or.inr (wAt hw 46 rfl)) (by decide) (t := .int) (t' := (.object "java/lang/String")) (by decide) (by decide))))
  have f6 := (Ea.wr W3)
  obtain ⟨T4, h4, X4, e4, W4, st4⟩ := putF X3 hx hZ hown (host := "") (Or.inl (wAt hw 47 rfl)) Via.refl e3 f5 f6 (Or.inr ⟨(wAt hw 48 rfl), rfl, hnm⟩) (wAt hw 4 rfl) (ty := .int) (by decide) rfl rfl (g := (mkF m 43 #[.val (.ref a), .val (.ref x1), .val (.int port)] [(.int port), (.ref a)])) rfl rfl (hb hby d7_43)
  have F4 := f5.same W4
  have N4 := Fr.snoc X4 N3 ga
  have Zs4 := Nat.le_trans Zs3 (Keep.of_wr W4).1
  have K4 := K3.wr W4 (Or.inl (List.mem_of_getElem? (i := 0) rfl))
  refine Done.step st4 ?_
  show Done _ p e below s _ _ (T4.setTop (mkF m 46 #[.val (.ref a), .val (.ref x1), .val (.int port)] []))
  have f7 := (f6.wr W4)
  have f8 := (F3.other W4 (Or.inr (slot_ne (Or.inr (wAt hw 46 rfl)) (Or.inr (wAt hw 48 rfl)) (by decide) (t := (.object "java/lang/String")) (t' := .int) (by decide) (by decide))))
  refine Done.retV (leavesF X4 hlk (by decide) (by decide)) X4 hx hret (hb hby d7_46) ?_
  rw [e4]
  exact ⟨rfl, N4, K4, f7, f8, F4⟩
theorem d10_0 : decode prog_4_method_7_code 0 = .ok (.aload_n 1, 1) := by decide +kernel
theorem d10_1 : decode prog_4_method_7_code 1 = .ok (.instanceof 16, 3) := by decide +kernel
theorem d10_4 : decode prog_4_method_7_code 4 = .ok (.ifCond .eq 37, 3) := by decide +kernel
theorem d10_7 : decode prog_4_method_7_code 7 = .ok (.aload_n 1, 1) := by decide +kernel
theorem d10_8 : decode prog_4_method_7_code 8 = .ok (.checkcast 16, 3) := by decide +kernel
theorem d10_11 : decode prog_4_method_7_code 11 = .ok (.astore_n 2, 1) := by decide +kernel
theorem d10_12 : decode prog_4_method_7_code 12 = .ok (.aload_n 2, 1) := by decide +kernel
theorem d10_13 : decode prog_4_method_7_code 13 = .ok (.getfield 23, 3) := by decide +kernel
theorem d10_16 : decode prog_4_method_7_code 16 = .ok (.aload_n 0, 1) := by decide +kernel
theorem d10_17 : decode prog_4_method_7_code 17 = .ok (.getfield 23, 3) := by decide +kernel
theorem d10_20 : decode prog_4_method_7_code 20 = .ok (.invokevirtual 104, 3) := by decide +kernel
theorem pd_1 : parseMethodDescriptor "(Ljava/lang/Object;)Z" = some ⟨[(.object "java/lang/Object")], some .boolean⟩ := by decide +kernel
theorem d10_23 : decode prog_4_method_7_code 23 = .ok (.ifCond .eq 18, 3) := by decide +kernel
theorem d10_26 : decode prog_4_method_7_code 26 = .ok (.aload_n 2, 1) := by decide +kernel
theorem d10_27 : decode prog_4_method_7_code 27 = .ok (.getfield 27, 3) := by decide +kernel
theorem d10_30 : decode prog_4_method_7_code 30 = .ok (.aload_n 0, 1) := by decide +kernel
theorem d10_31 : decode prog_4_method_7_code 31 = .ok (.getfield 27, 3) := by decide +kernel
theorem d10_34 : decode prog_4_method_7_code 34 = .ok (.if_icmp .ne 7, 3) := by decide +kernel
theorem d10_37 : decode prog_4_method_7_code 37 = .ok (.iconst 1, 1) := by decide +kernel
theorem d10_38 : decode prog_4_method_7_code 38 = .ok (.goto 4, 3) := by decide +kernel
theorem d10_42 : decode prog_4_method_7_code 42 = .ok (.ireturn, 1) := by decide +kernel
theorem d10_41 : decode prog_4_method_7_code 41 = .ok (.iconst 0, 1) := by decide +kernel
set_option maxRecDepth 65536 in
set_option maxHeartbeats 40000000 in
theorem rmE (l : Launch) (Z : State) (a0 : Array Value) (hw : ∀ d ∈ tables_1, d.before a0 Z = true) (ws : List Jvm.Cond) (a b : Addr) (x1 t1 : Addr) (kb1 : ClassId) (cs1 : List Int32) (cd1 N1 : Int32) (vs1 : List Value) (x2 t2 : Addr) (kb2 : ClassId) (cs2 : List Int32) (cd2 N2 : Int32) (vs2 : List Value) (p1 p2 r z : Int32) (h0 : Heap) (n0 : Nat) (Z0 : n0 ≤ h0.size) (Eb : Exa Z h0 b "com/example/minho/minho/core/Address") (Fh1 : Fld Z h0 a "com/example/minho/minho/core/Address" "m_host" "Ljava/lang/String;" (.ref x1)) (Fh1p : Fld Z h0 a "com/example/minho/minho/core/Address" "m_port" "I" (.int p1)) (Fh2 : Fld Z h0 b "com/example/minho/minho/core/Address" "m_host" "Ljava/lang/String;" (.ref x2)) (Fh2p : Fld Z h0 b "com/example/minho/minho/core/Address" "m_port" "I" (.int p2)) (E1 : Exa Z h0 x1 "java/lang/String") (V1 : Fld Z h0 x1 "java/lang/String" "value" "[B" (.ref t1)) (C1 : Fld Z h0 x1 "java/lang/String" "coder" "B" (.int cd1)) (K1 : Arv Z h0 t1 kb1 .byte N1 vs1 (.int 0)) (hcd1 : StrChars.Road.CodA cs1 cd1 N1 vs1) (hbd1 : ∀ c ∈ cs1, ¬ c < 0 ∧ ¬ (65535 : Int32) < c) (l1 : cs1.length ≤ 4000) (E2 : Exa Z h0 x2 "java/lang/String") (V2 : Fld Z h0 x2 "java/lang/String" "value" "[B" (.ref t2)) (C2 : Fld Z h0 x2 "java/lang/String" "coder" "B" (.int cd2)) (K2 : Arv Z h0 t2 kb2 .byte N2 vs2 (.int 0)) (hcd2 : StrChars.Road.CodA cs2 cd2 N2 vs2) (hbd2 : ∀ c ∈ cs2, ¬ c < 0 ∧ ¬ (65535 : Int32) < c) (l2 : cs2.length ≤ 4000) (O0 : Old Z n0 h0) (SC : Sta Z Z.heap "java/lang/String" "COMPACT_STRINGS" "Z" (.int z)) (hz : ¬ z = 0) (hr : r = bP (cs2 = cs1 ∧ p2 = p1)) :
    Ctr FrameEnd l Z (⟨"com/example/minho/minho/core/Address", "equals", "(Ljava/lang/Object;)Z"⟩ : MethodName) prog_4_method_7_code 3 (some .boolean) ws ({ frames := 2, cells := 0, slots := 0, locals := 28 } : Room) #[(.ref a), (.ref b)] h0 TrueV (PureQ (some (.int r)) h0) := by
  refine Ctr.intro (plainFor_of_name pn_com_example_minho_minho_core_Address) (Ls := #[.val (.ref a), .val (.ref b), .unset]) (fun m => by first | (simp [entryFrame, mkF, argsToLocals, Value.category]; done) | rfl) ?_
  intro p e s m below meth c T0 hx hby hml hown hnm hret hlk hZ hV hsh e0 X0
  have N0 := Fr.nil n0
  show Done _ p e below s _ _ (T0.setTop (mkF m 0 #[.val (.ref a), .val (.ref b), .unset] []))
  refine Done.step (fun _ => XS.aloadN X0.here hx rfl (hb hby d10_0) rfl rfl) ?_
  show Done _ p e below s _ _ (T0.setTop (mkF m 1 #[.val (.ref a), .val (.ref b), .unset] [(.ref b)]))
  obtain ⟨T1, X1, e1, st1⟩ := instY X0 hx hZ hown (wAt hw 61 rfl) e0 (Ins.self Eb) (g := (mkF m 1 #[.val (.ref a), .val (.ref b), .unset] [(.ref b)])) rfl rfl (hb hby d10_1)
  refine Done.step st1 ?_
  show Done _ p e below s _ _ (T1.setTop (mkF m 4 #[.val (.ref a), .val (.ref b), .unset] [(.int (1 : Int32))]))
  refine Done.step (fun _ => XS.ifNo X1.here hx rfl (hb hby d10_4) rfl (XT.i0_eq_f (by decide))) ?_
  show Done _ p e below s _ _ (T1.setTop (mkF m 7 #[.val (.ref a), .val (.ref b), .unset] []))
  refine Done.step (fun _ => XS.aloadN X1.here hx rfl (hb hby d10_7) rfl rfl) ?_
  show Done _ p e below s _ _ (T1.setTop (mkF m 8 #[.val (.ref a), .val (.ref b), .unset] [(.ref b)]))
  obtain ⟨T2, X2, e2, st2⟩ := castY X1 hx hZ hown (wAt hw 61 rfl) e1 (Ins.self Eb) (g := (mkF m 8 #[.val (.ref a), .val (.ref b), .unset] [(.ref b)])) rfl rfl (hb hby d10_8)
  refine Done.step st2 ?_
  show Done _ p e below s _ _ (T2.setTop (mkF m 11 #[.val (.ref a), .val (.ref b), .unset] [(.ref b)]))
  refine Done.step (fun _ => XS.astoreN X2.here hx rfl (hb hby d10_11) rfl rfl (l' := #[.val (.ref a), .val (.ref b), .val (.ref b)]) rfl) ?_
  show Done _ p e below s _ _ (T2.setTop (mkF m 12 #[.val (.ref a), .val (.ref b), .val (.ref b)] []))
  refine Done.step (fun _ => XS.aloadN X2.here hx rfl (hb hby d10_12) rfl rfl) ?_
  show Done _ p e below s _ _ (T2.setTop (mkF m 13 #[.val (.ref a), .val (.ref b), .val (.ref b)] [(.ref b)]))
  obtain ⟨T3, X3, e3, st3⟩ := getF X2 hx hZ hown (host := "") (Or.inl (wAt hw 45 rfl)) Via.refl e2 Fh2 (g := (mkF m 13 #[.val (.ref a), .val (.ref b), .val (.ref b)] [(.ref b)])) rfl rfl (hb hby d10_13)
  refine Done.step st3 ?_
  show Done _ p e below s _ _ (T3.setTop (mkF m 16 #[.val (.ref a), .val (.ref b), .val (.ref b)] [(.ref x2)]))
  refine Done.step (fun _ => XS.aloadN X3.here hx rfl (hb hby d10_16) rfl rfl) ?_
  show Done _ p e below s _ _ (T3.setTop (mkF m 17 #[.val (.ref a), .val (.ref b), .val (.ref b)] [(.ref a), (.ref x2)]))
  obtain ⟨T4, X4, e4, st4⟩ := getF X3 hx hZ hown (host := "") (Or.inl (wAt hw 45 rfl)) Via.refl e3 Fh1 (g := (mkF m 17 #[.val (.ref a), .val (.ref b), .val (.ref b)] [(.ref a), (.ref x2)])) rfl rfl (hb hby d10_17)
  refine Done.step st4 ?_
  show Done _ p e below s _ _ (T4.setTop (mkF m 20 #[.val (.ref a), .val (.ref b), .val (.ref b)] [(.ref x1), (.ref x2)]))
  refine Done.callVB (nc := 0) (ns := 0) (C := "java/lang/String") (z := (⟨"java/lang/String", "equals", "(Ljava/lang/Object;)Z"⟩ : MethodName)) (Qh := (fun v h' L => ((v = some (.int 1) ∧ cs2 = cs1) ∨ (v = some (.int 0) ∧ ¬ cs2 = cs1)) ∧ L = [] ∧ h' = h0)) X4 hx hZ hown (wAt hw 63 rfl) (wAt hw 64 rfl) (notFace_of_selects (args := #[]) (mvT hZ (wAt hw 66 rfl))) (wAt hw 66 rfl) (wAt hw 65 rfl) (by decide) (StrChars.Road.eqW (W := 0) hZ (own_heq hw) (kI := 4) (wAt hw 7 rfl) E2 V2 C2 K2 hcd2 hbd2 l2 E1 V1 C1 K1 hcd1 hbd1 l1 (SC.ext O0.2) hz (by decide) (by decide)) e4 E2 (g := (mkF m 20 #[.val (.ref a), .val (.ref b), .val (.ref b)] [(.ref x1), (.ref x2)])) rfl (by rw [hml]; rfl) [(.ref x1)] [] (lenOf pd_1 rfl) rfl rfl (by show 2 * 0 + _ ≤ _; exact Nat.le_of_eq rfl) (hb hby d10_20) (by decide) (by decide) ?_
  intro T5 v5 L5 X5 q5
  obtain ⟨q5, rfl, e5⟩ := q5
  rcases q5 with ⟨rfl, hs6⟩ | ⟨rfl, hs6⟩
  · rw [List.append_nil] at X5
    show Done _ p e below s _ _ (T5.setTop (mkF m 23 #[.val (.ref a), .val (.ref b), .val (.ref b)] [(.int (1 : Int32))]))
    refine Done.step (fun _ => XS.ifNo X5.here hx rfl (hb hby d10_23) rfl (XT.i0_eq_f (by decide))) ?_
    show Done _ p e below s _ _ (T5.setTop (mkF m 26 #[.val (.ref a), .val (.ref b), .val (.ref b)] []))
    refine Done.step (fun _ => XS.aloadN X5.here hx rfl (hb hby d10_26) rfl rfl) ?_
    show Done _ p e below s _ _ (T5.setTop (mkF m 27 #[.val (.ref a), .val (.ref b), .val (.ref b)] [(.ref b)]))
    obtain ⟨T7, X7, e7, st7⟩ := getF X5 hx hZ hown (host := "") (Or.inl (wAt hw 47 rfl)) Via.refl e5 Fh2p (g := (mkF m 27 #[.val (.ref a), .val (.ref b), .val (.ref b)] [(.ref b)])) rfl rfl (hb hby d10_27)
    refine Done.step st7 ?_
    show Done _ p e below s _ _ (T7.setTop (mkF m 30 #[.val (.ref a), .val (.ref b), .val (.ref b)] [(.int p2)]))
    refine Done.step (fun _ => XS.aloadN X7.here hx rfl (hb hby d10_30) rfl rfl) ?_
    show Done _ p e below s _ _ (T7.setTop (mkF m 31 #[.val (.ref a), .val (.ref b), .val (.ref b)] [(.ref a), (.int p2)]))
    obtain ⟨T8, X8, e8, st8⟩ := getF X7 hx hZ hown (host := "") (Or.inl (wAt hw 47 rfl)) Via.refl e7 Fh1p (g := (mkF m 31 #[.val (.ref a), .val (.ref b), .val (.ref b)] [(.ref a), (.int p2)])) rfl rfl (hb hby d10_31)
    refine Done.step st8 ?_
    show Done _ p e below s _ _ (T8.setTop (mkF m 34 #[.val (.ref a), .val (.ref b), .val (.ref b)] [(.int p1), (.int p2)]))
    by_cases hc9 : p2 = p1
    · refine Done.step (fun _ => XS.icmpNo X8.here hx rfl (hb hby d10_34) rfl (XT.ii_ne_f hc9)) ?_
      show Done _ p e below s _ _ (T8.setTop (mkF m 37 #[.val (.ref a), .val (.ref b), .val (.ref b)] []))
      refine Done.step (fun _ => XT.iconstV X8.here hx rfl (1 : Int32) (hb hby d10_37) (by decide)) ?_
      show Done _ p e below s _ _ (T8.setTop (mkF m 38 #[.val (.ref a), .val (.ref b), .val (.ref b)] [(.int (1 : Int32))]))
      refine Done.step (fun _ => XS.goto X8.here hx rfl (pc0 := 38) (pc' := 42) rfl (hb hby d10_38) (by decide) (by decide)) ?_
      show Done _ p e below s _ _ (T8.setTop (mkF m 42 #[.val (.ref a), .val (.ref b), .val (.ref b)] [(.int (1 : Int32))]))
      exact Done.retN (leavesF X8 hlk (by decide) (by decide)) X8 hx (t := .boolean) hret (by simp) (hb hby d10_42) ⟨by rw [hr, bP_t ⟨hs6, hc9⟩]; rfl, e8, rfl⟩
    · refine Done.step (fun _ => XS.icmpYes X8.here hx rfl (pc0 := 34) (pc' := 41) rfl (hb hby d10_34) rfl (XT.ii_ne_t hc9) (by decide) (by decide)) ?_
      show Done _ p e below s _ _ (T8.setTop (mkF m 41 #[.val (.ref a), .val (.ref b), .val (.ref b)] []))
      refine Done.step (fun _ => XT.iconstV X8.here hx rfl (0 : Int32) (hb hby d10_41) (by decide)) ?_
      show Done _ p e below s _ _ (T8.setTop (mkF m 42 #[.val (.ref a), .val (.ref b), .val (.ref b)] [(.int (0 : Int32))]))
      exact Done.retN (leavesF X8 hlk (by decide) (by decide)) X8 hx (t := .boolean) hret (by simp) (hb hby d10_42) ⟨by rw [hr, bP_f (fun q => hc9 q.2)]; rfl, e8, rfl⟩
  · rw [List.append_nil] at X5
    show Done _ p e below s _ _ (T5.setTop (mkF m 23 #[.val (.ref a), .val (.ref b), .val (.ref b)] [(.int (0 : Int32))]))
    refine Done.step (fun _ => XS.ifYes X5.here hx rfl (pc0 := 23) (pc' := 41) rfl (hb hby d10_23) rfl (XT.i0_eq_t rfl) (by decide) (by decide)) ?_
    show Done _ p e below s _ _ (T5.setTop (mkF m 41 #[.val (.ref a), .val (.ref b), .val (.ref b)] []))
    refine Done.step (fun _ => XT.iconstV X5.here hx rfl (0 : Int32) (hb hby d10_41) (by decide)) ?_
    show Done _ p e below s _ _ (T5.setTop (mkF m 42 #[.val (.ref a), .val (.ref b), .val (.ref b)] [(.int (0 : Int32))]))
    exact Done.retN (leavesF X5 hlk (by decide) (by decide)) X5 hx (t := .boolean) hret (by simp) (hb hby d10_42) ⟨by rw [hr, bP_f (fun q => hs6 q.1)]; rfl, e5, rfl⟩
set_option maxRecDepth 65536 in
set_option maxHeartbeats 40000000 in
theorem rmN (l : Launch) (Z : State) (a0 : Array Value) (hw : ∀ d ∈ tables_1, d.before a0 Z = true) (ws : List Jvm.Cond) (a : Addr) (h0 : Heap) (n0 : Nat) (Z0 : n0 ≤ h0.size)  :
    Ctr FrameEnd l Z (⟨"com/example/minho/minho/core/Address", "equals", "(Ljava/lang/Object;)Z"⟩ : MethodName) prog_4_method_7_code 3 (some .boolean) ws ({ frames := 0, cells := 0, slots := 0, locals := 0 } : Room) #[(.ref a), .null] h0 TrueV (PureQ (some (.int (0 : Int32))) h0) := by
  refine Ctr.intro (plainFor_of_name pn_com_example_minho_minho_core_Address) (Ls := #[.val (.ref a), .val .null, .unset]) (fun m => by first | (simp [entryFrame, mkF, argsToLocals, Value.category]; done) | rfl) ?_
  intro p e s m below meth c T0 hx hby hml hown hnm hret hlk hZ hV hsh e0 X0
  have N0 := Fr.nil n0
  show Done _ p e below s _ _ (T0.setTop (mkF m 0 #[.val (.ref a), .val .null, .unset] []))
  refine Done.step (fun _ => XS.aloadN X0.here hx rfl (hb hby d10_0) rfl rfl) ?_
  show Done _ p e below s _ _ (T0.setTop (mkF m 1 #[.val (.ref a), .val .null, .unset] [.null]))
  refine Done.step (X0.instanceofNull hx (g := (mkF m 1 #[.val (.ref a), .val .null, .unset] [.null])) rfl rfl (hb hby d10_1)) ?_
  show Done _ p e below s _ _ (T0.setTop (mkF m 4 #[.val (.ref a), .val .null, .unset] [(.int (0 : Int32))]))
  refine Done.step (fun _ => XS.ifYes X0.here hx rfl (pc0 := 4) (pc' := 41) rfl (hb hby d10_4) rfl (XT.i0_eq_t rfl) (by decide) (by decide)) ?_
  show Done _ p e below s _ _ (T0.setTop (mkF m 41 #[.val (.ref a), .val .null, .unset] []))
  refine Done.step (fun _ => XT.iconstV X0.here hx rfl (0 : Int32) (hb hby d10_41) (by decide)) ?_
  show Done _ p e below s _ _ (T0.setTop (mkF m 42 #[.val (.ref a), .val .null, .unset] [(.int (0 : Int32))]))
  exact Done.retN (leavesF X0 hlk (by decide) (by decide)) X0 hx (t := .boolean) hret (by simp) (hb hby d10_42) ⟨rfl, e0, rfl⟩
set_option maxRecDepth 65536 in
set_option maxHeartbeats 40000000 in
theorem rmI (l : Launch) (Z : State) (a0 : Array Value) (hw : ∀ d ∈ tables_1, d.before a0 Z = true) (ws : List Jvm.Cond) (a b : Addr) (h0 : Heap) (n0 : Nat) (Z0 : n0 ≤ h0.size) (Eb : Exa Z h0 b "java/lang/Integer") :
    Ctr FrameEnd l Z (⟨"com/example/minho/minho/core/Address", "equals", "(Ljava/lang/Object;)Z"⟩ : MethodName) prog_4_method_7_code 3 (some .boolean) ws ({ frames := 0, cells := 0, slots := 0, locals := 0 } : Room) #[(.ref a), (.ref b)] h0 TrueV (PureQ (some (.int (0 : Int32))) h0) := by
  refine Ctr.intro (plainFor_of_name pn_com_example_minho_minho_core_Address) (Ls := #[.val (.ref a), .val (.ref b), .unset]) (fun m => by first | (simp [entryFrame, mkF, argsToLocals, Value.category]; done) | rfl) ?_
  intro p e s m below meth c T0 hx hby hml hown hnm hret hlk hZ hV hsh e0 X0
  have N0 := Fr.nil n0
  show Done _ p e below s _ _ (T0.setTop (mkF m 0 #[.val (.ref a), .val (.ref b), .unset] []))
  refine Done.step (fun _ => XS.aloadN X0.here hx rfl (hb hby d10_0) rfl rfl) ?_
  show Done _ p e below s _ _ (T0.setTop (mkF m 1 #[.val (.ref a), .val (.ref b), .unset] [(.ref b)]))
  obtain ⟨T1, X1, e1, st1⟩ := instNo X0 hx hZ hown (wAt hw 61 rfl) e0 Eb (own_nsNo (wAt hw 73 rfl) (wAt hw 4 rfl) (NS.step (wAt hw 73 rfl) (NS.step (wAt hw 74 rfl) (own_nsRoot (wAt hw 75 rfl) (wAt hw 4 rfl) (by decide)) (by decide)) (by decide)) (by decide)) (g := (mkF m 1 #[.val (.ref a), .val (.ref b), .unset] [(.ref b)])) rfl rfl (hb hby d10_1)
  refine Done.step st1 ?_
  show Done _ p e below s _ _ (T1.setTop (mkF m 4 #[.val (.ref a), .val (.ref b), .unset] [(.int (0 : Int32))]))
  refine Done.step (fun _ => XS.ifYes X1.here hx rfl (pc0 := 4) (pc' := 41) rfl (hb hby d10_4) rfl (XT.i0_eq_t rfl) (by decide) (by decide)) ?_
  show Done _ p e below s _ _ (T1.setTop (mkF m 41 #[.val (.ref a), .val (.ref b), .unset] []))
  refine Done.step (fun _ => XT.iconstV X1.here hx rfl (0 : Int32) (hb hby d10_41) (by decide)) ?_
  show Done _ p e below s _ _ (T1.setTop (mkF m 42 #[.val (.ref a), .val (.ref b), .unset] [(.int (0 : Int32))]))
  exact Done.retN (leavesF X1 hlk (by decide) (by decide)) X1 hx (t := .boolean) hret (by simp) (hb hby d10_42) ⟨rfl, e1, rfl⟩
theorem pn_java_lang_Number : plainName "java/lang/Number" = true := by first | (simp [plainName, overriddenIn]; done) | decide +kernel
theorem d14_0 : decode jdk_18_method_1_code 0 = .ok (.aload_n 0, 1) := by decide +kernel
theorem d14_1 : decode jdk_18_method_1_code 1 = .ok (.invokespecial 1, 3) := by decide +kernel
theorem d14_4 : decode jdk_18_method_1_code 4 = .ok (.return_, 1) := by decide +kernel
set_option maxRecDepth 65536 in
set_option maxHeartbeats 40000000 in
theorem rmNU (l : Launch) (Z : State) (a0 : Array Value) (hw : ∀ d ∈ tables_1, d.before a0 Z = true) (ws : List Jvm.Cond) (a : Addr) (h0 : Heap) (n0 : Nat) (Z0 : n0 ≤ h0.size)  :
    Ctr FrameEnd l Z (⟨"java/lang/Number", "<init>", "()V"⟩ : MethodName) jdk_18_method_1_code 1 none ws ({ frames := 1, cells := 0, slots := 0, locals := 12 } : Room) #[(.ref a)] h0 TrueV (PureQ none h0) := by
  refine Ctr.intro (plainFor_of_name pn_java_lang_Number) (Ls := #[.val (.ref a)]) (fun m => by first | (simp [entryFrame, mkF, argsToLocals, Value.category]; done) | rfl) ?_
  intro p e s m below meth c T0 hx hby hml hown hnm hret hlk hZ hV hsh e0 X0
  have N0 := Fr.nil n0
  show Done _ p e below s _ _ (T0.setTop (mkF m 0 #[.val (.ref a)] []))
  refine Done.step (fun _ => XS.aloadN X0.here hx rfl (hb hby d14_0) rfl rfl) ?_
  show Done _ p e below s _ _ (T0.setTop (mkF m 1 #[.val (.ref a)] [(.ref a)]))
  obtain ⟨T1, X1, e1, st1⟩ := initO X0 hx hZ hown (wAt hw 88 rfl) (wAt hw 17 rfl) (wAt hw 18 rfl) e0 (g := (mkF m 1 #[.val (.ref a)] [(.ref a)])) rfl (by rw [hml]; rfl) rfl (hb hby d14_1) (by decide) (W := 0) (by show 2 * 0 + _ ≤ _; exact Nat.le_of_eq rfl) (by decide)
  refine Done.step st1 ?_
  show Done _ p e below s _ _ (T1.setTop (mkF m 4 #[.val (.ref a)] []))
  exact Done.retV (leavesF X1 hlk (by decide) (by decide)) X1 hx hret (hb hby d14_4) ⟨rfl, e1, rfl⟩
theorem pn_java_lang_Integer : plainName "java/lang/Integer" = true := by first | (simp [plainName, overriddenIn]; done) | decide +kernel
theorem d13_0 : decode jdk_33_method_23_code 0 = .ok (.aload_n 0, 1) := by decide +kernel
theorem d13_1 : decode jdk_33_method_23_code 1 = .ok (.invokespecial 202, 3) := by decide +kernel
theorem pd_2 : parseMethodDescriptor "()V" = some ⟨[], none⟩ := by decide +kernel
theorem d13_4 : decode jdk_33_method_23_code 4 = .ok (.aload_n 0, 1) := by decide +kernel
theorem d13_5 : decode jdk_33_method_23_code 5 = .ok (.iload_n 1, 1) := by decide +kernel
theorem d13_6 : decode jdk_33_method_23_code 6 = .ok (.putfield 205, 3) := by decide +kernel
theorem d13_9 : decode jdk_33_method_23_code 9 = .ok (.return_, 1) := by decide +kernel
set_option maxRecDepth 65536 in
set_option maxHeartbeats 40000000 in
theorem rmII (l : Launch) (Z : State) (a0 : Array Value) (hw : ∀ d ∈ tables_1, d.before a0 Z = true) (ws : List Jvm.Cond) (a : Addr) (k : Int32) (h0 : Heap) (n0 : Nat) (Z0 : n0 ≤ h0.size) (Ea : Exa Z h0 a "java/lang/Integer") (Fv : Fld Z h0 a "java/lang/Integer" "value" "I" (.int (0 : Int32))) (ga : n0 ≤ a) :
    Ctr FrameEnd l Z (⟨"java/lang/Integer", "<init>", "(I)V"⟩ : MethodName) jdk_33_method_23_code 2 none ws ({ frames := 2, cells := 0, slots := 0, locals := 24 } : Room) #[(.ref a), (.int k)] h0 TrueV (QW n0 h0 [a]) := by
  refine Ctr.intro (plainFor_of_name pn_java_lang_Integer) (Ls := #[.val (.ref a), .val (.int k)]) (fun m => by first | (simp [entryFrame, mkF, argsToLocals, Value.category]; done) | rfl) ?_
  intro p e s m below meth c T0 hx hby hml hown hnm hret hlk hZ hV hsh e0 X0
  have N0 := Fr.nil n0
  show Done _ p e below s _ _ (T0.setTop (mkF m 0 #[.val (.ref a), .val (.int k)] []))
  refine Done.step (fun _ => XS.aloadN X0.here hx rfl (hb hby d13_0) rfl rfl) ?_
  show Done _ p e below s _ _ (T0.setTop (mkF m 1 #[.val (.ref a), .val (.int k)] [(.ref a)]))
  refine Done.callI X0 hx hZ rfl hown (wAt hw 82 rfl) (wAt hw 83 rfl) (wAt hw 86 rfl) (wAt hw 87 rfl) (by decide) (rmNU l Z a0 hw [] a  h0 n0 Z0 ) (fun _ _ => trivial) e0 (g := (mkF m 1 #[.val (.ref a), .val (.int k)] [(.ref a)])) rfl (by rw [hml]; rfl) a [] [] 0 (lenOf pd_2 rfl) rfl rfl (by show 2 * 0 + _ ≤ _; exact Nat.le_of_eq rfl) (hb hby d13_1) (by decide) (by decide) (by decide) (by decide) ?_
  intro T1 v1 L1 X1 q1
  obtain ⟨rfl, e1, rfl⟩ := q1
  rw [List.append_nil] at X1
  show Done _ p e below s _ _ (T1.setTop (mkF m 4 #[.val (.ref a), .val (.int k)] []))
  refine Done.step (fun _ => XS.aloadN X1.here hx rfl (hb hby d13_4) rfl rfl) ?_
  show Done _ p e below s _ _ (T1.setTop (mkF m 5 #[.val (.ref a), .val (.int k)] [(.ref a)]))
  refine Done.step (fun _ => XS.iloadN X1.here hx rfl (hb hby d13_5) rfl) ?_
  show Done _ p e below s _ _ (T1.setTop (mkF m 6 #[.val (.ref a), .val (.int k)] [(.int k), (.ref a)]))
  obtain ⟨T2, h2, X2, e2, W2, st2⟩ := putF X1 hx hZ hown (host := "") (Or.inl (wAt hw 89 rfl)) Via.refl e1 Fv Ea (Or.inr ⟨(wAt hw 90 rfl), rfl, hnm⟩) (wAt hw 77 rfl) (ty := .int) (by decide) rfl rfl (g := (mkF m 6 #[.val (.ref a), .val (.int k)] [(.int k), (.ref a)])) rfl rfl (hb hby d13_6)
  have F2 := Fv.same W2
  have N2 := Fr.snoc X2 N0 ga
  have Zs2 := Nat.le_trans Z0 (Keep.of_wr W2).1
  have K2 := (Keep.refl h0 [a]).wr W2 (Or.inl (List.mem_of_getElem? (i := 0) rfl))
  refine Done.step st2 ?_
  show Done _ p e below s _ _ (T2.setTop (mkF m 9 #[.val (.ref a), .val (.int k)] []))
  refine Done.retV (leavesF X2 hlk (by decide) (by decide)) X2 hx hret (hb hby d13_9) ?_
  rw [e2]
  exact ⟨rfl, N2, K2⟩
theorem own_128 {p : Int32} (h : ¬ p < (1 : Int32)) : ¬ p < (-128 : Int32) := by
  rw [Int32.lt_iff_toInt_lt] at h ⊢
  have e1 : (1 : Int32).toInt = 1 := rfl
  have e2 : (-128 : Int32).toInt = -128 := by decide
  omega
theorem own_add128 {p : Int32} (h : ¬ p < (1 : Int32)) (h2 : ¬ (127 : Int32) < p) : (p + (128 : Int32)).toInt = p.toInt + 128 ∧ 1 ≤ p.toInt ∧ p.toInt ≤ 127 := by
  rw [Int32.lt_iff_toInt_lt] at h h2
  have e1 : (1 : Int32).toInt = 1 := rfl
  have e2 : (127 : Int32).toInt = 127 := rfl
  have e3 : (128 : Int32).toInt = 128 := rfl
  refine ⟨?_, by omega, by omega⟩
  rw [Jvm.Kit.i32_add (by omega) (by omega), e3]
theorem own_256 {p : Int32} (h : ¬ p < (1 : Int32)) (h2 : ¬ (127 : Int32) < p) : (p + (128 : Int32)).toNatClampNeg < 256 := by
  obtain ⟨a, b, c⟩ := own_add128 h h2
  have : (p + (128 : Int32)).toNatClampNeg = (p + (128 : Int32)).toInt.toNat := rfl
  omega
theorem own_in {p : Int32} {cl : Cell} (h : ¬ p < (1 : Int32)) (h2 : ¬ (127 : Int32) < p) (hs : cl.slots.size = 256) : ¬ ((p + (128 : Int32)) < 0 ∨ cl.slots.size ≤ (p + (128 : Int32)).toNatClampNeg) := by
  have q := own_256 h h2
  obtain ⟨a, b, c⟩ := own_add128 h h2
  rintro (g | g)
  · rw [Int32.lt_iff_toInt_lt] at g
    have e0 : (0 : Int32).toInt = 0 := rfl
    omega
  · omega
def QVf (Z : State) (n0 : Nat) (h0 : Heap) (v : Option Value) (h : Heap) (_ : Vm) (L : List Loc) : Prop := ∃ r, v = some (.ref r) ∧ Fr n0 L ∧ Keep h0 h [] ∧ Exa Z h r "java/lang/Integer"
theorem d9_0 : decode jdk_33_method_22_code 0 = .ok (.iload_n 0, 1) := by decide +kernel
theorem d9_1 : decode jdk_33_method_22_code 1 = .ok (.bipush (-128), 2) := by decide +kernel
theorem d9_3 : decode jdk_33_method_22_code 3 = .ok (.if_icmp .lt 20, 3) := by decide +kernel
theorem d9_6 : decode jdk_33_method_22_code 6 = .ok (.iload_n 0, 1) := by decide +kernel
theorem d9_7 : decode jdk_33_method_22_code 7 = .ok (.getstatic 191, 3) := by decide +kernel
theorem d9_10 : decode jdk_33_method_22_code 10 = .ok (.if_icmp .gt 13, 3) := by decide +kernel
theorem d9_23 : decode jdk_33_method_22_code 23 = .ok (.new 1, 3) := by decide +kernel
theorem d9_26 : decode jdk_33_method_22_code 26 = .ok (.dup, 1) := by decide +kernel
theorem d9_27 : decode jdk_33_method_22_code 27 = .ok (.iload_n 0, 1) := by decide +kernel
theorem d9_28 : decode jdk_33_method_22_code 28 = .ok (.invokespecial 199, 3) := by decide +kernel
theorem pd_3 : parseMethodDescriptor "(I)V" = some ⟨[.int], none⟩ := by decide +kernel
theorem d9_31 : decode jdk_33_method_22_code 31 = .ok (.areturn, 1) := by decide +kernel
theorem d9_13 : decode jdk_33_method_22_code 13 = .ok (.getstatic 195, 3) := by decide +kernel
theorem d9_16 : decode jdk_33_method_22_code 16 = .ok (.iload_n 0, 1) := by decide +kernel
theorem d9_17 : decode jdk_33_method_22_code 17 = .ok (.sipush 128, 3) := by decide +kernel
theorem d9_20 : decode jdk_33_method_22_code 20 = .ok (.iadd, 1) := by decide +kernel
theorem d9_21 : decode jdk_33_method_22_code 21 = .ok (.aaload, 1) := by decide +kernel
theorem d9_22 : decode jdk_33_method_22_code 22 = .ok (.areturn, 1) := by decide +kernel
set_option maxRecDepth 65536 in
set_option maxHeartbeats 40000000 in
theorem rmV (l : Launch) (Z : State) (a0 : Array Value) (hw : ∀ d ∈ tables_1, d.before a0 Z = true) (ws : List Jvm.Cond) (port : Int32) (cA : Addr) (cl : Cell) (h0 : Heap) (n0 : Nat) (Z0 : n0 ≤ h0.size) (O0 : Old Z n0 h0) (SH : Sta Z Z.heap "java/lang/Integer$IntegerCache" "high" "I" (.int (127 : Int32))) (SK : Sta Z Z.heap "java/lang/Integer$IntegerCache" "cache" "[Ljava/lang/Integer;" (.ref cA)) (CA : Arr Z Z.heap cA cl (.object "java/lang/Integer")) (hsz : cl.slots.size = 256) (hel : ∀ j : Nat, j < 256 → ∃ r, cl.slots[j]? = some (.ref r) ∧ Exa Z Z.heap r "java/lang/Integer") (hp1 : ¬ port < (1 : Int32)) :
    Ctr FrameEnd l Z (⟨"java/lang/Integer", "valueOf", "(I)Ljava/lang/Integer;"⟩ : MethodName) jdk_33_method_22_code 1 (some (.object "java/lang/Integer")) ws ({ frames := 3, cells := 1, slots := 1, locals := 38 } : Room) #[(.int port)] h0 TrueV (QVf Z n0 h0) := by
  refine Ctr.intro (plainFor_of_name pn_java_lang_Integer) (Ls := #[.val (.int port)]) (fun m => by first | (simp [entryFrame, mkF, argsToLocals, Value.category]; done) | rfl) ?_
  intro p e s m below meth c T0 hx hby hml hown hnm hret hlk hZ hV hsh e0 X0
  have N0 := Fr.nil n0
  show Done _ p e below s _ _ (T0.setTop (mkF m 0 #[.val (.int port)] []))
  refine Done.step (fun _ => XS.iloadN X0.here hx rfl (hb hby d9_0) rfl) ?_
  show Done _ p e below s _ _ (T0.setTop (mkF m 1 #[.val (.int port)] [(.int port)]))
  refine Done.step (fun _ => XT.bipushV X0.here hx rfl (-128 : Int32) (hb hby d9_1) (by decide)) ?_
  show Done _ p e below s _ _ (T0.setTop (mkF m 3 #[.val (.int port)] [(.int (-128 : Int32)), (.int port)]))
  refine Done.step (fun _ => XS.icmpNo X0.here hx rfl (hb hby d9_3) rfl (XT.ii_lt_f (own_128 hp1))) ?_
  show Done _ p e below s _ _ (T0.setTop (mkF m 6 #[.val (.int port)] []))
  refine Done.step (fun _ => XS.iloadN X0.here hx rfl (hb hby d9_6) rfl) ?_
  show Done _ p e below s _ _ (T0.setTop (mkF m 7 #[.val (.int port)] [(.int port)]))
  obtain ⟨T1, X1, e1, st1⟩ := getS2 X0 hx hZ hown (host := "") (Or.inl (wAt hw 53 rfl)) Via.refl e0 (SH.ext O0.2) (g := (mkF m 7 #[.val (.int port)] [(.int port)])) rfl (hb hby d9_7)
  refine Done.step st1 ?_
  show Done _ p e below s _ _ (T1.setTop (mkF m 10 #[.val (.int port)] [(.int (127 : Int32)), (.int port)]))
  by_cases hc2 : (127 : Int32) < port
  · refine Done.step (fun _ => XS.icmpYes X1.here hx rfl (pc0 := 10) (pc' := 23) rfl (hb hby d9_10) rfl (XT.ii_gt_t hc2) (by decide) (by decide)) ?_
    show Done _ p e below s _ _ (T1.setTop (mkF m 23 #[.val (.int port)] []))
    obtain ⟨T3, h3, X3, e3, E3, A3, D3, -, st3⟩ := newO X1 hx hZ hown (wAt hw 76 rfl) (wAt hw 77 rfl) (wAt hw 51 rfl) e1 (g := (mkF m 23 #[.val (.int port)] [])) rfl (hb hby d9_23) (by decide) (by decide)
    obtain ⟨b3, g3⟩ : ∃ z, z = h0.size := ⟨_, rfl⟩
    rw [← g3] at A3 D3 st3
    have n0_b3 : n0 ≤ b3 := by rw [g3]; exact Z0
    have sz_b3 : h0.size ≤ b3 := by rw [g3]; exact (Keep.refl h0 []).1
    have K3 := (Keep.refl h0 []).ext E3
    have Zs3 := Nat.le_trans Z0 E3.1
    have F_value_b3 : Fld Z h3 b3 "java/lang/Integer" "value" "I" (.int (0 : Int32)) := D3 (Or.inr (wAt hw 90 rfl)) (ty := .int) (by decide)
    refine Done.step st3 ?_
    show Done _ p e below s _ _ (T3.setTop (mkF m 26 #[.val (.int port)] [(.ref b3)]))
    refine Done.step (fun _ => XS.dup X3.here hx rfl (hb hby d9_26) rfl rfl) ?_
    show Done _ p e below s _ _ (T3.setTop (mkF m 27 #[.val (.int port)] [(.ref b3), (.ref b3)]))
    refine Done.step (fun _ => XS.iloadN X3.here hx rfl (hb hby d9_27) rfl) ?_
    show Done _ p e below s _ _ (T3.setTop (mkF m 28 #[.val (.int port)] [(.int port), (.ref b3), (.ref b3)]))
    refine Done.callI X3 hx hZ rfl hown (wAt hw 78 rfl) (wAt hw 79 rfl) (wAt hw 51 rfl) (wAt hw 81 rfl) (by decide) (rmII l Z a0 hw [] b3 port h3 n0 Zs3 A3 F_value_b3 n0_b3) (fun _ _ => trivial) e3 (g := (mkF m 28 #[.val (.int port)] [(.int port), (.ref b3), (.ref b3)])) rfl (by rw [hml]; rfl) b3 [(.int port)] [(.ref b3)] 1 (lenOf pd_3 rfl) rfl rfl (by show 2 * 0 + _ ≤ _; exact Nat.le_of_eq rfl) (hb hby d9_28) (by decide) (by decide) (by decide) (by decide) ?_
    intro T4 v4 L4 X4 q4
    obtain ⟨rfl, Nq4, K4q⟩ := q4
    have N4 := Fr.app N0 Nq4
    have Zs4 := Nat.le_trans Zs3 K4q.1
    have K4 := K3.trans K4q (allS (Or.inr sz_b3) all0)
    show Done _ p e below s _ _ (T4.setTop (mkF m 31 #[.val (.int port)] [(.ref b3)]))
    have f5 := (A3.keep K4q)
    exact Done.retA (leavesF X4 hlk (by decide) (by decide)) X4 hx hret rfl rfl (hb hby d9_31) ⟨b3, rfl, N4, K4, f5⟩
  · refine Done.step (fun _ => XS.icmpNo X1.here hx rfl (hb hby d9_10) rfl (XT.ii_gt_f hc2)) ?_
    show Done _ p e below s _ _ (T1.setTop (mkF m 13 #[.val (.int port)] []))
    obtain ⟨T6, X6, e6, st6⟩ := getS2 X1 hx hZ hown (host := "") (Or.inl (wAt hw 55 rfl)) Via.refl e1 (SK.ext O0.2) (g := (mkF m 13 #[.val (.int port)] [])) rfl (hb hby d9_13)
    refine Done.step st6 ?_
    show Done _ p e below s _ _ (T6.setTop (mkF m 16 #[.val (.int port)] [(.ref cA)]))
    refine Done.step (fun _ => XS.iloadN X6.here hx rfl (hb hby d9_16) rfl) ?_
    show Done _ p e below s _ _ (T6.setTop (mkF m 17 #[.val (.int port)] [(.int port), (.ref cA)]))
    refine Done.step (fun _ => XT.sipushV X6.here hx rfl (128 : Int32) (hb hby d9_17) (by decide)) ?_
    show Done _ p e below s _ _ (T6.setTop (mkF m 20 #[.val (.int port)] [(.int (128 : Int32)), (.int port), (.ref cA)]))
    refine Done.step (fun _ => XS.iadd X6.here hx rfl (hb hby d9_20) rfl) ?_
    show Done _ p e below s _ _ (T6.setTop (mkF m 21 #[.val (.int port)] [(.int (port + (128 : Int32))), (.ref cA)]))
    obtain ⟨r, hr1, Er⟩ := hel _ (own_256 hp1 hc2)
    have CA7 : Arr Z h0 cA cl (.object "java/lang/Integer") := CA.ext O0.2
    refine Done.step (X6.aaload hx (j := port + (128 : Int32)) (v := .ref r) (by rw [e6]; exact CA7.1) (State.isArrayOf_alike hZ.alike CA7.2.1) rfl CA7.2.2 (own_in hp1 hc2 hsz) hr1 (g := (mkF m 21 #[.val (.int port)] [(.int (port + (128 : Int32))), (.ref cA)])) rfl rfl (hb hby d9_21)) ?_
    show Done _ p e below s _ _ (T6.setTop (mkF m 22 #[.val (.int port)] [(.ref r)]))
    refine Done.retA (leavesF X6 hlk (by decide) (by decide)) X6 hx hret rfl rfl (hb hby d9_22) ?_
    rw [e6]
    exact ⟨r, rfl, N0, (Keep.refl h0 []), (Er.ext O0.2)⟩
theorem pn_com_example_minho_minho_core_AddressEqualsPinLaw : plainName "com/example/minho/minho/core/AddressEqualsPinLaw" = true := by first | (simp [plainName, overriddenIn]; done) | decide +kernel
theorem pd_4 : parseMethodDescriptor "([C)V" = some ⟨[(.array .char)], none⟩ := by decide +kernel
theorem pd_5 : parseMethodDescriptor "(Ljava/lang/String;I)V" = some ⟨[(.object "java/lang/String"), .int], none⟩ := by decide +kernel
theorem pd_6 : parseMethodDescriptor "(I)Ljava/lang/Integer;" = some ⟨[.int], some (.object "java/lang/Integer")⟩ := by decide +kernel
set_option maxRecDepth 65536 in
set_option maxHeartbeats 40000000 in
theorem rm0 (l : Launch) (Z : State) (a0 : Array Value) (hw : ∀ d ∈ tables_1, d.before a0 Z = true) (ws : List Jvm.Cond) (aa bb pp qq fl : Int32) (z : Int32) (cA : Addr) (cl : Cell) (h0 : Heap) (n0 : Nat) (Z0 : n0 ≤ h0.size) (O0 : Old Z n0 h0) (SC : Sta Z Z.heap "java/lang/String" "COMPACT_STRINGS" "Z" (.int z)) (hz : ¬ z = 0) (SH : Sta Z Z.heap "java/lang/Integer$IntegerCache" "high" "I" (.int (127 : Int32))) (SK : Sta Z Z.heap "java/lang/Integer$IntegerCache" "cache" "[Ljava/lang/Integer;" (.ref cA)) (CA : Arr Z Z.heap cA cl (.object "java/lang/Integer")) (hsz : cl.slots.size = 256) (hel : ∀ j : Nat, j < 256 → ∃ r, cl.slots[j]? = some (.ref r) ∧ Exa Z Z.heap r "java/lang/Integer") :
    Ctr FrameEnd l Z x code maxLocals ret ws room_1 #[(.int aa), (.int bb), (.int pp), (.int qq), (.int fl)] h0 TrueV (LawQ n0) := by
  refine Ctr.intro (plainFor_of_name pn_com_example_minho_minho_core_AddressEqualsPinLaw) (Ls := #[.val (.int aa), .val (.int bb), .val (.int pp), .val (.int qq), .val (.int fl), .unset, .unset, .unset, .unset, .unset, .unset, .unset, .unset, .unset, .unset, .unset, .unset, .unset, .unset]) (fun m => by first | (simp [entryFrame, mkF, argsToLocals, Value.category, maxLocals]; done) | rfl) ?_
  intro p e s m below meth c T0 hx hby hml hown hnm hret hlk hZ hV hsh e0 X0
  have N0 := Fr.nil n0
  have hown : s.vm.findClass "com/example/minho/minho/core/AddressEqualsPinLaw" = some m.cls := hown
  have hret : meth.sig.returnType = (some .boolean) := hret
  have hml : c.maxLocals = 19 := hml
  show Done _ p e below s _ _ (T0.setTop (mkF m 0 #[.val (.int aa), .val (.int bb), .val (.int pp), .val (.int qq), .val (.int fl), .unset, .unset, .unset, .unset, .unset, .unset, .unset, .unset, .unset, .unset, .unset, .unset, .unset, .unset] []))
  refine Done.step (fun _ => XT.iconstV X0.here hx rfl (1 : Int32) (hb hby at_0) (by decide)) ?_
  show Done _ p e below s _ _ (T0.setTop (mkF m 1 #[.val (.int aa), .val (.int bb), .val (.int pp), .val (.int qq), .val (.int fl), .unset, .unset, .unset, .unset, .unset, .unset, .unset, .unset, .unset, .unset, .unset, .unset, .unset, .unset] [(.int (1 : Int32))]))
  refine Done.step (fun _ => XS.iload X0.here hx rfl (hb hby at_1) rfl) ?_
  show Done _ p e below s _ _ (T0.setTop (mkF m 3 #[.val (.int aa), .val (.int bb), .val (.int pp), .val (.int qq), .val (.int fl), .unset, .unset, .unset, .unset, .unset, .unset, .unset, .unset, .unset, .unset, .unset, .unset, .unset, .unset] [(.int fl), (.int (1 : Int32))]))
  refine Done.step (fun _ => XT.iconstV X0.here hx rfl (1 : Int32) (hb hby at_3) (by decide)) ?_
  show Done _ p e below s _ _ (T0.setTop (mkF m 4 #[.val (.int aa), .val (.int bb), .val (.int pp), .val (.int qq), .val (.int fl), .unset, .unset, .unset, .unset, .unset, .unset, .unset, .unset, .unset, .unset, .unset, .unset, .unset, .unset] [(.int (1 : Int32)), (.int fl), (.int (1 : Int32))]))
  refine Done.step (fun _ => XS.iand X0.here hx rfl (hb hby at_4) rfl) ?_
  show Done _ p e below s _ _ (T0.setTop (mkF m 5 #[.val (.int aa), .val (.int bb), .val (.int pp), .val (.int qq), .val (.int fl), .unset, .unset, .unset, .unset, .unset, .unset, .unset, .unset, .unset, .unset, .unset, .unset, .unset, .unset] [(.int (fl &&& (1 : Int32))), (.int (1 : Int32))]))
  refine Done.step (fun _ => XS.iadd X0.here hx rfl (hb hby at_5) rfl) ?_
  show Done _ p e below s _ _ (T0.setTop (mkF m 6 #[.val (.int aa), .val (.int bb), .val (.int pp), .val (.int qq), .val (.int fl), .unset, .unset, .unset, .unset, .unset, .unset, .unset, .unset, .unset, .unset, .unset, .unset, .unset, .unset] [(.int ((1 : Int32) + (fl &&& (1 : Int32))))]))
  refine Done.step (fun _ => XS.istore X0.here hx rfl (hb hby at_6) rfl (l' := #[.val (.int aa), .val (.int bb), .val (.int pp), .val (.int qq), .val (.int fl), .val (.int ((1 : Int32) + (fl &&& (1 : Int32)))), .unset, .unset, .unset, .unset, .unset, .unset, .unset, .unset, .unset, .unset, .unset, .unset, .unset]) rfl) ?_
  show Done _ p e below s _ _ (T0.setTop (mkF m 8 #[.val (.int aa), .val (.int bb), .val (.int pp), .val (.int qq), .val (.int fl), .val (.int ((1 : Int32) + (fl &&& (1 : Int32)))), .unset, .unset, .unset, .unset, .unset, .unset, .unset, .unset, .unset, .unset, .unset, .unset, .unset] []))
  rcases (own_m1 fl) with hv | hv
  · rw [hv]
    show Done _ p e below s _ _ (T0.setTop (mkF m 8 #[.val (.int aa), .val (.int bb), .val (.int pp), .val (.int qq), .val (.int fl), .val (.int (1 : Int32)), .unset, .unset, .unset, .unset, .unset, .unset, .unset, .unset, .unset, .unset, .unset, .unset, .unset] []))
    refine Done.step (fun _ => XT.iconstV X0.here hx rfl (1 : Int32) (hb hby at_8) (by decide)) ?_
    show Done _ p e below s _ _ (T0.setTop (mkF m 9 #[.val (.int aa), .val (.int bb), .val (.int pp), .val (.int qq), .val (.int fl), .val (.int (1 : Int32)), .unset, .unset, .unset, .unset, .unset, .unset, .unset, .unset, .unset, .unset, .unset, .unset, .unset] [(.int (1 : Int32))]))
    refine Done.step (fun _ => XS.iload X0.here hx rfl (hb hby at_9) rfl) ?_
    show Done _ p e below s _ _ (T0.setTop (mkF m 11 #[.val (.int aa), .val (.int bb), .val (.int pp), .val (.int qq), .val (.int fl), .val (.int (1 : Int32)), .unset, .unset, .unset, .unset, .unset, .unset, .unset, .unset, .unset, .unset, .unset, .unset, .unset] [(.int fl), (.int (1 : Int32))]))
    refine Done.step (fun _ => XT.iconstV X0.here hx rfl (1 : Int32) (hb hby at_11) (by decide)) ?_
    show Done _ p e below s _ _ (T0.setTop (mkF m 12 #[.val (.int aa), .val (.int bb), .val (.int pp), .val (.int qq), .val (.int fl), .val (.int (1 : Int32)), .unset, .unset, .unset, .unset, .unset, .unset, .unset, .unset, .unset, .unset, .unset, .unset, .unset] [(.int (1 : Int32)), (.int fl), (.int (1 : Int32))]))
    refine Done.step (fun _ => XT.iushr X0.here hx rfl (hb hby at_12) rfl) ?_
    show Done _ p e below s _ _ (T0.setTop (mkF m 13 #[.val (.int aa), .val (.int bb), .val (.int pp), .val (.int qq), .val (.int fl), .val (.int (1 : Int32)), .unset, .unset, .unset, .unset, .unset, .unset, .unset, .unset, .unset, .unset, .unset, .unset, .unset] [(.int ((fl.toUInt32 >>> ((1 : Int32) &&& 31).toUInt32).toInt32)), (.int (1 : Int32))]))
    refine Done.step (fun _ => XT.iconstV X0.here hx rfl (1 : Int32) (hb hby at_13) (by decide)) ?_
    show Done _ p e below s _ _ (T0.setTop (mkF m 14 #[.val (.int aa), .val (.int bb), .val (.int pp), .val (.int qq), .val (.int fl), .val (.int (1 : Int32)), .unset, .unset, .unset, .unset, .unset, .unset, .unset, .unset, .unset, .unset, .unset, .unset, .unset] [(.int (1 : Int32)), (.int ((fl.toUInt32 >>> ((1 : Int32) &&& 31).toUInt32).toInt32)), (.int (1 : Int32))]))
    refine Done.step (fun _ => XS.iand X0.here hx rfl (hb hby at_14) rfl) ?_
    show Done _ p e below s _ _ (T0.setTop (mkF m 15 #[.val (.int aa), .val (.int bb), .val (.int pp), .val (.int qq), .val (.int fl), .val (.int (1 : Int32)), .unset, .unset, .unset, .unset, .unset, .unset, .unset, .unset, .unset, .unset, .unset, .unset, .unset] [(.int (((fl.toUInt32 >>> ((1 : Int32) &&& 31).toUInt32).toInt32) &&& (1 : Int32))), (.int (1 : Int32))]))
    refine Done.step (fun _ => XS.iadd X0.here hx rfl (hb hby at_15) rfl) ?_
    show Done _ p e below s _ _ (T0.setTop (mkF m 16 #[.val (.int aa), .val (.int bb), .val (.int pp), .val (.int qq), .val (.int fl), .val (.int (1 : Int32)), .unset, .unset, .unset, .unset, .unset, .unset, .unset, .unset, .unset, .unset, .unset, .unset, .unset] [(.int ((1 : Int32) + (((fl.toUInt32 >>> ((1 : Int32) &&& 31).toUInt32).toInt32) &&& (1 : Int32))))]))
    refine Done.step (fun _ => XS.istore X0.here hx rfl (hb hby at_16) rfl (l' := #[.val (.int aa), .val (.int bb), .val (.int pp), .val (.int qq), .val (.int fl), .val (.int (1 : Int32)), .val (.int ((1 : Int32) + (((fl.toUInt32 >>> ((1 : Int32) &&& 31).toUInt32).toInt32) &&& (1 : Int32)))), .unset, .unset, .unset, .unset, .unset, .unset, .unset, .unset, .unset, .unset, .unset, .unset]) rfl) ?_
    show Done _ p e below s _ _ (T0.setTop (mkF m 18 #[.val (.int aa), .val (.int bb), .val (.int pp), .val (.int qq), .val (.int fl), .val (.int (1 : Int32)), .val (.int ((1 : Int32) + (((fl.toUInt32 >>> ((1 : Int32) &&& 31).toUInt32).toInt32) &&& (1 : Int32)))), .unset, .unset, .unset, .unset, .unset, .unset, .unset, .unset, .unset, .unset, .unset, .unset] []))
    rcases (own_m1 ((fl.toUInt32 >>> ((1 : Int32) &&& 31).toUInt32).toInt32)) with hv | hv
    · rw [hv]
      show Done _ p e below s _ _ (T0.setTop (mkF m 18 #[.val (.int aa), .val (.int bb), .val (.int pp), .val (.int qq), .val (.int fl), .val (.int (1 : Int32)), .val (.int (1 : Int32)), .unset, .unset, .unset, .unset, .unset, .unset, .unset, .unset, .unset, .unset, .unset, .unset] []))
      refine Done.step (fun _ => XS.iloadN X0.here hx rfl (hb hby at_18) rfl) ?_
      show Done _ p e below s _ _ (T0.setTop (mkF m 19 #[.val (.int aa), .val (.int bb), .val (.int pp), .val (.int qq), .val (.int fl), .val (.int (1 : Int32)), .val (.int (1 : Int32)), .unset, .unset, .unset, .unset, .unset, .unset, .unset, .unset, .unset, .unset, .unset, .unset] [(.int aa)]))
      refine Done.step (fun _ => XT.sipushV X0.here hx rfl (255 : Int32) (hb hby at_19) (by decide)) ?_
      show Done _ p e below s _ _ (T0.setTop (mkF m 22 #[.val (.int aa), .val (.int bb), .val (.int pp), .val (.int qq), .val (.int fl), .val (.int (1 : Int32)), .val (.int (1 : Int32)), .unset, .unset, .unset, .unset, .unset, .unset, .unset, .unset, .unset, .unset, .unset, .unset] [(.int (255 : Int32)), (.int aa)]))
      refine Done.step (fun _ => XS.iand X0.here hx rfl (hb hby at_22) rfl) ?_
      show Done _ p e below s _ _ (T0.setTop (mkF m 23 #[.val (.int aa), .val (.int bb), .val (.int pp), .val (.int qq), .val (.int fl), .val (.int (1 : Int32)), .val (.int (1 : Int32)), .unset, .unset, .unset, .unset, .unset, .unset, .unset, .unset, .unset, .unset, .unset, .unset] [(.int (aa &&& (255 : Int32)))]))
      refine Done.step (fun _ => XT.i2c X0.here hx rfl (hb hby at_23) rfl) ?_
      show Done _ p e below s _ _ (T0.setTop (mkF m 24 #[.val (.int aa), .val (.int bb), .val (.int pp), .val (.int qq), .val (.int fl), .val (.int (1 : Int32)), .val (.int (1 : Int32)), .unset, .unset, .unset, .unset, .unset, .unset, .unset, .unset, .unset, .unset, .unset, .unset] [(.int ((aa &&& (255 : Int32)).toUInt32.toUInt16.toUInt32.toInt32))]))
      refine Done.step (fun _ => XS.istore X0.here hx rfl (hb hby at_24) rfl (l' := #[.val (.int aa), .val (.int bb), .val (.int pp), .val (.int qq), .val (.int fl), .val (.int (1 : Int32)), .val (.int (1 : Int32)), .val (.int ((aa &&& (255 : Int32)).toUInt32.toUInt16.toUInt32.toInt32)), .unset, .unset, .unset, .unset, .unset, .unset, .unset, .unset, .unset, .unset, .unset]) rfl) ?_
      show Done _ p e below s _ _ (T0.setTop (mkF m 26 #[.val (.int aa), .val (.int bb), .val (.int pp), .val (.int qq), .val (.int fl), .val (.int (1 : Int32)), .val (.int (1 : Int32)), .val (.int ((aa &&& (255 : Int32)).toUInt32.toUInt16.toUInt32.toInt32)), .unset, .unset, .unset, .unset, .unset, .unset, .unset, .unset, .unset, .unset, .unset] []))
      refine Done.step (fun _ => XS.iloadN X0.here hx rfl (hb hby at_26) rfl) ?_
      show Done _ p e below s _ _ (T0.setTop (mkF m 27 #[.val (.int aa), .val (.int bb), .val (.int pp), .val (.int qq), .val (.int fl), .val (.int (1 : Int32)), .val (.int (1 : Int32)), .val (.int ((aa &&& (255 : Int32)).toUInt32.toUInt16.toUInt32.toInt32)), .unset, .unset, .unset, .unset, .unset, .unset, .unset, .unset, .unset, .unset, .unset] [(.int aa)]))
      refine Done.step (fun _ => XT.bipushV X0.here hx rfl (8 : Int32) (hb hby at_27) (by decide)) ?_
      show Done _ p e below s _ _ (T0.setTop (mkF m 29 #[.val (.int aa), .val (.int bb), .val (.int pp), .val (.int qq), .val (.int fl), .val (.int (1 : Int32)), .val (.int (1 : Int32)), .val (.int ((aa &&& (255 : Int32)).toUInt32.toUInt16.toUInt32.toInt32)), .unset, .unset, .unset, .unset, .unset, .unset, .unset, .unset, .unset, .unset, .unset] [(.int (8 : Int32)), (.int aa)]))
      refine Done.step (fun _ => XT.iushr X0.here hx rfl (hb hby at_29) rfl) ?_
      show Done _ p e below s _ _ (T0.setTop (mkF m 30 #[.val (.int aa), .val (.int bb), .val (.int pp), .val (.int qq), .val (.int fl), .val (.int (1 : Int32)), .val (.int (1 : Int32)), .val (.int ((aa &&& (255 : Int32)).toUInt32.toUInt16.toUInt32.toInt32)), .unset, .unset, .unset, .unset, .unset, .unset, .unset, .unset, .unset, .unset, .unset] [(.int ((aa.toUInt32 >>> ((8 : Int32) &&& 31).toUInt32).toInt32))]))
      refine Done.step (fun _ => XT.sipushV X0.here hx rfl (255 : Int32) (hb hby at_30) (by decide)) ?_
      show Done _ p e below s _ _ (T0.setTop (mkF m 33 #[.val (.int aa), .val (.int bb), .val (.int pp), .val (.int qq), .val (.int fl), .val (.int (1 : Int32)), .val (.int (1 : Int32)), .val (.int ((aa &&& (255 : Int32)).toUInt32.toUInt16.toUInt32.toInt32)), .unset, .unset, .unset, .unset, .unset, .unset, .unset, .unset, .unset, .unset, .unset] [(.int (255 : Int32)), (.int ((aa.toUInt32 >>> ((8 : Int32) &&& 31).toUInt32).toInt32))]))
      refine Done.step (fun _ => XS.iand X0.here hx rfl (hb hby at_33) rfl) ?_
      show Done _ p e below s _ _ (T0.setTop (mkF m 34 #[.val (.int aa), .val (.int bb), .val (.int pp), .val (.int qq), .val (.int fl), .val (.int (1 : Int32)), .val (.int (1 : Int32)), .val (.int ((aa &&& (255 : Int32)).toUInt32.toUInt16.toUInt32.toInt32)), .unset, .unset, .unset, .unset, .unset, .unset, .unset, .unset, .unset, .unset, .unset] [(.int (((aa.toUInt32 >>> ((8 : Int32) &&& 31).toUInt32).toInt32) &&& (255 : Int32)))]))
      refine Done.step (fun _ => XT.i2c X0.here hx rfl (hb hby at_34) rfl) ?_
      show Done _ p e below s _ _ (T0.setTop (mkF m 35 #[.val (.int aa), .val (.int bb), .val (.int pp), .val (.int qq), .val (.int fl), .val (.int (1 : Int32)), .val (.int (1 : Int32)), .val (.int ((aa &&& (255 : Int32)).toUInt32.toUInt16.toUInt32.toInt32)), .unset, .unset, .unset, .unset, .unset, .unset, .unset, .unset, .unset, .unset, .unset] [(.int ((((aa.toUInt32 >>> ((8 : Int32) &&& 31).toUInt32).toInt32) &&& (255 : Int32)).toUInt32.toUInt16.toUInt32.toInt32))]))
      refine Done.step (fun _ => XS.istore X0.here hx rfl (hb hby at_35) rfl (l' := #[.val (.int aa), .val (.int bb), .val (.int pp), .val (.int qq), .val (.int fl), .val (.int (1 : Int32)), .val (.int (1 : Int32)), .val (.int ((aa &&& (255 : Int32)).toUInt32.toUInt16.toUInt32.toInt32)), .val (.int ((((aa.toUInt32 >>> ((8 : Int32) &&& 31).toUInt32).toInt32) &&& (255 : Int32)).toUInt32.toUInt16.toUInt32.toInt32)), .unset, .unset, .unset, .unset, .unset, .unset, .unset, .unset, .unset, .unset]) rfl) ?_
      show Done _ p e below s _ _ (T0.setTop (mkF m 37 #[.val (.int aa), .val (.int bb), .val (.int pp), .val (.int qq), .val (.int fl), .val (.int (1 : Int32)), .val (.int (1 : Int32)), .val (.int ((aa &&& (255 : Int32)).toUInt32.toUInt16.toUInt32.toInt32)), .val (.int ((((aa.toUInt32 >>> ((8 : Int32) &&& 31).toUInt32).toInt32) &&& (255 : Int32)).toUInt32.toUInt16.toUInt32.toInt32)), .unset, .unset, .unset, .unset, .unset, .unset, .unset, .unset, .unset, .unset] []))
      have K84 : ∀ (c0 c1 d0 d1 : Int32) (bc0 : ¬ c0 < 0 ∧ ¬ (255 : Int32) < c0) (bc1 : ¬ c1 < 0 ∧ ¬ (255 : Int32) < c1) (bd0 : ¬ d0 < 0 ∧ ¬ (255 : Int32) < d0) (bd1 : ¬ d1 < 0 ∧ ¬ (255 : Int32) < d1), Done FrameEnd p e below s room_1 (LawQ n0) (T0.setTop (mkF m 84 #[.val (.int aa), .val (.int bb), .val (.int pp), .val (.int qq), .val (.int fl), .val (.int (1 : Int32)), .val (.int (1 : Int32)), .val (.int c0), .val (.int c1), .val (.int d0), .val (.int d1), .unset, .unset, .unset, .unset, .unset, .unset, .unset, .unset] [])) := by
        intro c0 c1 d0 d1 bc0 bc1 bd0 bd1
        show Done _ p e below s _ _ (T0.setTop (mkF m 84 #[.val (.int aa), .val (.int bb), .val (.int pp), .val (.int qq), .val (.int fl), .val (.int (1 : Int32)), .val (.int (1 : Int32)), .val (.int c0), .val (.int c1), .val (.int d0), .val (.int d1), .unset, .unset, .unset, .unset, .unset, .unset, .unset, .unset] []))
        refine Done.step (fun _ => XS.iload X0.here hx rfl (hb hby at_84) rfl) ?_
        show Done _ p e below s _ _ (T0.setTop (mkF m 86 #[.val (.int aa), .val (.int bb), .val (.int pp), .val (.int qq), .val (.int fl), .val (.int (1 : Int32)), .val (.int (1 : Int32)), .val (.int c0), .val (.int c1), .val (.int d0), .val (.int d1), .unset, .unset, .unset, .unset, .unset, .unset, .unset, .unset] [(.int (1 : Int32))]))
        obtain ⟨T1, h1, k1, X1, e1, E1, A1, st1⟩ := newP X0 hx hZ (wAt hw 0 rfl) e0 (g := (mkF m 86 #[.val (.int aa), .val (.int bb), .val (.int pp), .val (.int qq), .val (.int fl), .val (.int (1 : Int32)), .val (.int (1 : Int32)), .val (.int c0), .val (.int c1), .val (.int d0), .val (.int d1), .unset, .unset, .unset, .unset, .unset, .unset, .unset, .unset] [(.int (1 : Int32))])) rfl (hb hby at_86) rfl (by decide) (cap := 1) (by decide) (by decide) (by decide) (by decide)
        obtain ⟨b1, g1⟩ : ∃ z, z = h0.size := ⟨_, rfl⟩
        rw [← g1] at A1 st1
        have n0_b1 : n0 ≤ b1 := by rw [g1]; exact Z0
        have Zs1 := Nat.le_trans Z0 E1.1
        have V_b1 : Arv Z h1 b1 k1 .char (1 : Int32) [(.int (0 : Int32))] (.int (0 : Int32)) := (Arv.new A1 (by decide)).pad (pad_rep [] (.int (0 : Int32)) 1)
        refine Done.step st1 ?_
        show Done _ p e below s _ _ (T1.setTop (mkF m 88 #[.val (.int aa), .val (.int bb), .val (.int pp), .val (.int qq), .val (.int fl), .val (.int (1 : Int32)), .val (.int (1 : Int32)), .val (.int c0), .val (.int c1), .val (.int d0), .val (.int d1), .unset, .unset, .unset, .unset, .unset, .unset, .unset, .unset] [(.ref b1)]))
        refine Done.step (fun _ => XS.astore X1.here hx rfl (hb hby at_88) rfl rfl (l' := #[.val (.int aa), .val (.int bb), .val (.int pp), .val (.int qq), .val (.int fl), .val (.int (1 : Int32)), .val (.int (1 : Int32)), .val (.int c0), .val (.int c1), .val (.int d0), .val (.int d1), .val (.ref b1), .unset, .unset, .unset, .unset, .unset, .unset, .unset]) rfl) ?_
        show Done _ p e below s _ _ (T1.setTop (mkF m 90 #[.val (.int aa), .val (.int bb), .val (.int pp), .val (.int qq), .val (.int fl), .val (.int (1 : Int32)), .val (.int (1 : Int32)), .val (.int c0), .val (.int c1), .val (.int d0), .val (.int d1), .val (.ref b1), .unset, .unset, .unset, .unset, .unset, .unset, .unset] []))
        refine Done.step (fun _ => XS.aload X1.here hx rfl (hb hby at_90) rfl rfl) ?_
        show Done _ p e below s _ _ (T1.setTop (mkF m 92 #[.val (.int aa), .val (.int bb), .val (.int pp), .val (.int qq), .val (.int fl), .val (.int (1 : Int32)), .val (.int (1 : Int32)), .val (.int c0), .val (.int c1), .val (.int d0), .val (.int d1), .val (.ref b1), .unset, .unset, .unset, .unset, .unset, .unset, .unset] [(.ref b1)]))
        refine Done.step (fun _ => XT.iconstV X1.here hx rfl (0 : Int32) (hb hby at_92) (by decide)) ?_
        show Done _ p e below s _ _ (T1.setTop (mkF m 93 #[.val (.int aa), .val (.int bb), .val (.int pp), .val (.int qq), .val (.int fl), .val (.int (1 : Int32)), .val (.int (1 : Int32)), .val (.int c0), .val (.int c1), .val (.int d0), .val (.int d1), .val (.ref b1), .unset, .unset, .unset, .unset, .unset, .unset, .unset] [(.int (0 : Int32)), (.ref b1)]))
        refine Done.step (fun _ => XS.iload X1.here hx rfl (hb hby at_93) rfl) ?_
        show Done _ p e below s _ _ (T1.setTop (mkF m 95 #[.val (.int aa), .val (.int bb), .val (.int pp), .val (.int qq), .val (.int fl), .val (.int (1 : Int32)), .val (.int (1 : Int32)), .val (.int c0), .val (.int c1), .val (.int d0), .val (.int d1), .val (.ref b1), .unset, .unset, .unset, .unset, .unset, .unset, .unset] [(.int c0), (.int (0 : Int32)), (.ref b1)]))
        obtain ⟨cl2, Ar2, q2, S2, Nn2, H2, G2⟩ := V_b1
        have hin2 : ¬ ((0 : Int32) < 0 ∨ cl2.slots.size ≤ ((0 : Int32)).toNatClampNeg) := inb_of S2 ⟨by decide, by decide⟩
        obtain ⟨T2, h2, X2, e2, W2, st2⟩ := stC X1 hx hZ e1 Ar2 (j := (0 : Int32)) hin2 (g := (mkF m 95 #[.val (.int aa), .val (.int bb), .val (.int pp), .val (.int qq), .val (.int fl), .val (.int (1 : Int32)), .val (.int (1 : Int32)), .val (.int c0), .val (.int c1), .val (.int d0), .val (.int d1), .val (.ref b1), .unset, .unset, .unset, .unset, .unset, .unset, .unset] [(.int c0), (.int (0 : Int32)), (.ref b1)])) rfl rfl (hb hby at_95)
        have V2 := Arv.set Ar2 q2 S2 Nn2 H2 G2 (fits_nar_char _) W2 0 rfl (Nat.le_of_ble_eq_true rfl)
        have N2 := Fr.snoc X2 N0 n0_b1
        have Zs2 := Nat.le_trans Zs1 (Keep.of_wr W2).1
        refine Done.step st2 ?_
        show Done _ p e below s _ _ (T2.setTop (mkF m 96 #[.val (.int aa), .val (.int bb), .val (.int pp), .val (.int qq), .val (.int fl), .val (.int (1 : Int32)), .val (.int (1 : Int32)), .val (.int c0), .val (.int c1), .val (.int d0), .val (.int d1), .val (.ref b1), .unset, .unset, .unset, .unset, .unset, .unset, .unset] []))
        refine Done.step (fun _ => XS.iload X2.here hx rfl (hb hby at_96) rfl) ?_
        show Done _ p e below s _ _ (T2.setTop (mkF m 98 #[.val (.int aa), .val (.int bb), .val (.int pp), .val (.int qq), .val (.int fl), .val (.int (1 : Int32)), .val (.int (1 : Int32)), .val (.int c0), .val (.int c1), .val (.int d0), .val (.int d1), .val (.ref b1), .unset, .unset, .unset, .unset, .unset, .unset, .unset] [(.int (1 : Int32))]))
        refine Done.step (fun _ => XT.iconstV X2.here hx rfl (2 : Int32) (hb hby at_98) (by decide)) ?_
        show Done _ p e below s _ _ (T2.setTop (mkF m 99 #[.val (.int aa), .val (.int bb), .val (.int pp), .val (.int qq), .val (.int fl), .val (.int (1 : Int32)), .val (.int (1 : Int32)), .val (.int c0), .val (.int c1), .val (.int d0), .val (.int d1), .val (.ref b1), .unset, .unset, .unset, .unset, .unset, .unset, .unset] [(.int (2 : Int32)), (.int (1 : Int32))]))
        refine Done.step (fun _ => XS.icmpYes X2.here hx rfl (pc0 := 99) (pc' := 108) rfl (hb hby at_99) rfl (XT.ii_ne_t (by decide)) (by decide) (by decide)) ?_
        show Done _ p e below s _ _ (T2.setTop (mkF m 108 #[.val (.int aa), .val (.int bb), .val (.int pp), .val (.int qq), .val (.int fl), .val (.int (1 : Int32)), .val (.int (1 : Int32)), .val (.int c0), .val (.int c1), .val (.int d0), .val (.int d1), .val (.ref b1), .unset, .unset, .unset, .unset, .unset, .unset, .unset] []))
        refine Done.step (fun _ => XS.iload X2.here hx rfl (hb hby at_108) rfl) ?_
        show Done _ p e below s _ _ (T2.setTop (mkF m 110 #[.val (.int aa), .val (.int bb), .val (.int pp), .val (.int qq), .val (.int fl), .val (.int (1 : Int32)), .val (.int (1 : Int32)), .val (.int c0), .val (.int c1), .val (.int d0), .val (.int d1), .val (.ref b1), .unset, .unset, .unset, .unset, .unset, .unset, .unset] [(.int (1 : Int32))]))
        obtain ⟨T3, h3, k3, X3, e3, E3, A3, st3⟩ := newP X2 hx hZ (wAt hw 0 rfl) e2 (g := (mkF m 110 #[.val (.int aa), .val (.int bb), .val (.int pp), .val (.int qq), .val (.int fl), .val (.int (1 : Int32)), .val (.int (1 : Int32)), .val (.int c0), .val (.int c1), .val (.int d0), .val (.int d1), .val (.ref b1), .unset, .unset, .unset, .unset, .unset, .unset, .unset] [(.int (1 : Int32))])) rfl (hb hby at_110) rfl (by decide) (cap := 1) (by decide) (by decide) (by decide) (by decide)
        obtain ⟨b3, g3⟩ : ∃ z, z = h2.size := ⟨_, rfl⟩
        rw [← g3] at A3 st3
        have ne_b1_b3 : b1 ≠ b3 := by rw [g3]; exact Nat.ne_of_lt V2.lt
        have n0_b3 : n0 ≤ b3 := by rw [g3]; exact Zs2
        have Zs3 := Nat.le_trans Zs2 E3.1
        have V_b3 : Arv Z h3 b3 k3 .char (1 : Int32) [(.int (0 : Int32))] (.int (0 : Int32)) := (Arv.new A3 (by decide)).pad (pad_rep [] (.int (0 : Int32)) 1)
        refine Done.step st3 ?_
        show Done _ p e below s _ _ (T3.setTop (mkF m 112 #[.val (.int aa), .val (.int bb), .val (.int pp), .val (.int qq), .val (.int fl), .val (.int (1 : Int32)), .val (.int (1 : Int32)), .val (.int c0), .val (.int c1), .val (.int d0), .val (.int d1), .val (.ref b1), .unset, .unset, .unset, .unset, .unset, .unset, .unset] [(.ref b3)]))
        refine Done.step (fun _ => XS.astore X3.here hx rfl (hb hby at_112) rfl rfl (l' := #[.val (.int aa), .val (.int bb), .val (.int pp), .val (.int qq), .val (.int fl), .val (.int (1 : Int32)), .val (.int (1 : Int32)), .val (.int c0), .val (.int c1), .val (.int d0), .val (.int d1), .val (.ref b1), .val (.ref b3), .unset, .unset, .unset, .unset, .unset, .unset]) rfl) ?_
        show Done _ p e below s _ _ (T3.setTop (mkF m 114 #[.val (.int aa), .val (.int bb), .val (.int pp), .val (.int qq), .val (.int fl), .val (.int (1 : Int32)), .val (.int (1 : Int32)), .val (.int c0), .val (.int c1), .val (.int d0), .val (.int d1), .val (.ref b1), .val (.ref b3), .unset, .unset, .unset, .unset, .unset, .unset] []))
        refine Done.step (fun _ => XS.aload X3.here hx rfl (hb hby at_114) rfl rfl) ?_
        show Done _ p e below s _ _ (T3.setTop (mkF m 116 #[.val (.int aa), .val (.int bb), .val (.int pp), .val (.int qq), .val (.int fl), .val (.int (1 : Int32)), .val (.int (1 : Int32)), .val (.int c0), .val (.int c1), .val (.int d0), .val (.int d1), .val (.ref b1), .val (.ref b3), .unset, .unset, .unset, .unset, .unset, .unset] [(.ref b3)]))
        refine Done.step (fun _ => XT.iconstV X3.here hx rfl (0 : Int32) (hb hby at_116) (by decide)) ?_
        show Done _ p e below s _ _ (T3.setTop (mkF m 117 #[.val (.int aa), .val (.int bb), .val (.int pp), .val (.int qq), .val (.int fl), .val (.int (1 : Int32)), .val (.int (1 : Int32)), .val (.int c0), .val (.int c1), .val (.int d0), .val (.int d1), .val (.ref b1), .val (.ref b3), .unset, .unset, .unset, .unset, .unset, .unset] [(.int (0 : Int32)), (.ref b3)]))
        refine Done.step (fun _ => XS.iload X3.here hx rfl (hb hby at_117) rfl) ?_
        show Done _ p e below s _ _ (T3.setTop (mkF m 119 #[.val (.int aa), .val (.int bb), .val (.int pp), .val (.int qq), .val (.int fl), .val (.int (1 : Int32)), .val (.int (1 : Int32)), .val (.int c0), .val (.int c1), .val (.int d0), .val (.int d1), .val (.ref b1), .val (.ref b3), .unset, .unset, .unset, .unset, .unset, .unset] [(.int d0), (.int (0 : Int32)), (.ref b3)]))
        obtain ⟨cl4, Ar4, q4, S4, Nn4, H4, G4⟩ := V_b3
        have hin4 : ¬ ((0 : Int32) < 0 ∨ cl4.slots.size ≤ ((0 : Int32)).toNatClampNeg) := inb_of S4 ⟨by decide, by decide⟩
        obtain ⟨T4, h4, X4, e4, W4, st4⟩ := stC X3 hx hZ e3 Ar4 (j := (0 : Int32)) hin4 (g := (mkF m 119 #[.val (.int aa), .val (.int bb), .val (.int pp), .val (.int qq), .val (.int fl), .val (.int (1 : Int32)), .val (.int (1 : Int32)), .val (.int c0), .val (.int c1), .val (.int d0), .val (.int d1), .val (.ref b1), .val (.ref b3), .unset, .unset, .unset, .unset, .unset, .unset] [(.int d0), (.int (0 : Int32)), (.ref b3)])) rfl rfl (hb hby at_119)
        have V4 := Arv.set Ar4 q4 S4 Nn4 H4 G4 (fits_nar_char _) W4 0 rfl (Nat.le_of_ble_eq_true rfl)
        have N4 := Fr.snoc X4 N2 n0_b3
        have Zs4 := Nat.le_trans Zs3 (Keep.of_wr W4).1
        refine Done.step st4 ?_
        show Done _ p e below s _ _ (T4.setTop (mkF m 120 #[.val (.int aa), .val (.int bb), .val (.int pp), .val (.int qq), .val (.int fl), .val (.int (1 : Int32)), .val (.int (1 : Int32)), .val (.int c0), .val (.int c1), .val (.int d0), .val (.int d1), .val (.ref b1), .val (.ref b3), .unset, .unset, .unset, .unset, .unset, .unset] []))
        refine Done.step (fun _ => XS.iload X4.here hx rfl (hb hby at_120) rfl) ?_
        show Done _ p e below s _ _ (T4.setTop (mkF m 122 #[.val (.int aa), .val (.int bb), .val (.int pp), .val (.int qq), .val (.int fl), .val (.int (1 : Int32)), .val (.int (1 : Int32)), .val (.int c0), .val (.int c1), .val (.int d0), .val (.int d1), .val (.ref b1), .val (.ref b3), .unset, .unset, .unset, .unset, .unset, .unset] [(.int (1 : Int32))]))
        refine Done.step (fun _ => XT.iconstV X4.here hx rfl (2 : Int32) (hb hby at_122) (by decide)) ?_
        show Done _ p e below s _ _ (T4.setTop (mkF m 123 #[.val (.int aa), .val (.int bb), .val (.int pp), .val (.int qq), .val (.int fl), .val (.int (1 : Int32)), .val (.int (1 : Int32)), .val (.int c0), .val (.int c1), .val (.int d0), .val (.int d1), .val (.ref b1), .val (.ref b3), .unset, .unset, .unset, .unset, .unset, .unset] [(.int (2 : Int32)), (.int (1 : Int32))]))
        refine Done.step (fun _ => XS.icmpYes X4.here hx rfl (pc0 := 123) (pc' := 132) rfl (hb hby at_123) rfl (XT.ii_ne_t (by decide)) (by decide) (by decide)) ?_
        show Done _ p e below s _ _ (T4.setTop (mkF m 132 #[.val (.int aa), .val (.int bb), .val (.int pp), .val (.int qq), .val (.int fl), .val (.int (1 : Int32)), .val (.int (1 : Int32)), .val (.int c0), .val (.int c1), .val (.int d0), .val (.int d1), .val (.ref b1), .val (.ref b3), .unset, .unset, .unset, .unset, .unset, .unset] []))
        refine Done.step (fun _ => XS.iloadN X4.here hx rfl (hb hby at_132) rfl) ?_
        show Done _ p e below s _ _ (T4.setTop (mkF m 133 #[.val (.int aa), .val (.int bb), .val (.int pp), .val (.int qq), .val (.int fl), .val (.int (1 : Int32)), .val (.int (1 : Int32)), .val (.int c0), .val (.int c1), .val (.int d0), .val (.int d1), .val (.ref b1), .val (.ref b3), .unset, .unset, .unset, .unset, .unset, .unset] [(.int pp)]))
        refine Done.step (fun _ => Stand.ldcI X4 hx hown (mvT hZ (wAt hw 1 rfl)) (g := (mkF m 133 #[.val (.int aa), .val (.int bb), .val (.int pp), .val (.int qq), .val (.int fl), .val (.int (1 : Int32)), .val (.int (1 : Int32)), .val (.int c0), .val (.int c1), .val (.int d0), .val (.int d1), .val (.ref b1), .val (.ref b3), .unset, .unset, .unset, .unset, .unset, .unset] [(.int pp)])) rfl (hb hby at_133)) ?_
        show Done _ p e below s _ _ (T4.setTop (mkF m 135 #[.val (.int aa), .val (.int bb), .val (.int pp), .val (.int qq), .val (.int fl), .val (.int (1 : Int32)), .val (.int (1 : Int32)), .val (.int c0), .val (.int c1), .val (.int d0), .val (.int d1), .val (.ref b1), .val (.ref b3), .unset, .unset, .unset, .unset, .unset, .unset] [(.int (2147483647 : Int32)), (.int pp)]))
        refine Done.step (fun _ => XS.iand X4.here hx rfl (hb hby at_135) rfl) ?_
        show Done _ p e below s _ _ (T4.setTop (mkF m 136 #[.val (.int aa), .val (.int bb), .val (.int pp), .val (.int qq), .val (.int fl), .val (.int (1 : Int32)), .val (.int (1 : Int32)), .val (.int c0), .val (.int c1), .val (.int d0), .val (.int d1), .val (.ref b1), .val (.ref b3), .unset, .unset, .unset, .unset, .unset, .unset] [(.int (pp &&& (2147483647 : Int32)))]))
        refine Done.step (fun _ => Stand.ldcI X4 hx hown (mvT hZ (wAt hw 2 rfl)) (g := (mkF m 136 #[.val (.int aa), .val (.int bb), .val (.int pp), .val (.int qq), .val (.int fl), .val (.int (1 : Int32)), .val (.int (1 : Int32)), .val (.int c0), .val (.int c1), .val (.int d0), .val (.int d1), .val (.ref b1), .val (.ref b3), .unset, .unset, .unset, .unset, .unset, .unset] [(.int (pp &&& (2147483647 : Int32)))])) rfl (hb hby at_136)) ?_
        show Done _ p e below s _ _ (T4.setTop (mkF m 138 #[.val (.int aa), .val (.int bb), .val (.int pp), .val (.int qq), .val (.int fl), .val (.int (1 : Int32)), .val (.int (1 : Int32)), .val (.int c0), .val (.int c1), .val (.int d0), .val (.int d1), .val (.ref b1), .val (.ref b3), .unset, .unset, .unset, .unset, .unset, .unset] [(.int (65535 : Int32)), (.int (pp &&& (2147483647 : Int32)))]))
        refine Done.step (fun _ => iremM X4 hx rfl (hb hby at_138) rfl (by decide)) ?_
        show Done _ p e below s _ _ (T4.setTop (mkF m 139 #[.val (.int aa), .val (.int bb), .val (.int pp), .val (.int qq), .val (.int fl), .val (.int (1 : Int32)), .val (.int (1 : Int32)), .val (.int c0), .val (.int c1), .val (.int d0), .val (.int d1), .val (.ref b1), .val (.ref b3), .unset, .unset, .unset, .unset, .unset, .unset] [(.int ((pp &&& (2147483647 : Int32)) % (65535 : Int32)))]))
        refine Done.step (fun _ => XT.iconstV X4.here hx rfl (1 : Int32) (hb hby at_139) (by decide)) ?_
        show Done _ p e below s _ _ (T4.setTop (mkF m 140 #[.val (.int aa), .val (.int bb), .val (.int pp), .val (.int qq), .val (.int fl), .val (.int (1 : Int32)), .val (.int (1 : Int32)), .val (.int c0), .val (.int c1), .val (.int d0), .val (.int d1), .val (.ref b1), .val (.ref b3), .unset, .unset, .unset, .unset, .unset, .unset] [(.int (1 : Int32)), (.int ((pp &&& (2147483647 : Int32)) % (65535 : Int32)))]))
        refine Done.step (fun _ => XS.iadd X4.here hx rfl (hb hby at_140) rfl) ?_
        show Done _ p e below s _ _ (T4.setTop (mkF m 141 #[.val (.int aa), .val (.int bb), .val (.int pp), .val (.int qq), .val (.int fl), .val (.int (1 : Int32)), .val (.int (1 : Int32)), .val (.int c0), .val (.int c1), .val (.int d0), .val (.int d1), .val (.ref b1), .val (.ref b3), .unset, .unset, .unset, .unset, .unset, .unset] [(.int (((pp &&& (2147483647 : Int32)) % (65535 : Int32)) + (1 : Int32)))]))
        refine Done.step (fun _ => XS.istore X4.here hx rfl (hb hby at_141) rfl (l' := #[.val (.int aa), .val (.int bb), .val (.int pp), .val (.int qq), .val (.int fl), .val (.int (1 : Int32)), .val (.int (1 : Int32)), .val (.int c0), .val (.int c1), .val (.int d0), .val (.int d1), .val (.ref b1), .val (.ref b3), .val (.int (((pp &&& (2147483647 : Int32)) % (65535 : Int32)) + (1 : Int32))), .unset, .unset, .unset, .unset, .unset]) rfl) ?_
        show Done _ p e below s _ _ (T4.setTop (mkF m 143 #[.val (.int aa), .val (.int bb), .val (.int pp), .val (.int qq), .val (.int fl), .val (.int (1 : Int32)), .val (.int (1 : Int32)), .val (.int c0), .val (.int c1), .val (.int d0), .val (.int d1), .val (.ref b1), .val (.ref b3), .val (.int (((pp &&& (2147483647 : Int32)) % (65535 : Int32)) + (1 : Int32))), .unset, .unset, .unset, .unset, .unset] []))
        have hport1 := own_port pp
        have K168 : ∀ (q2 : Int32) (hq1 : ¬ q2 < (1 : Int32)) (hq2 : ¬ (65535 : Int32) < q2), Done FrameEnd p e below s room_1 (LawQ n0) (T4.setTop (mkF m 168 #[.val (.int aa), .val (.int bb), .val (.int pp), .val (.int qq), .val (.int fl), .val (.int (1 : Int32)), .val (.int (1 : Int32)), .val (.int c0), .val (.int c1), .val (.int d0), .val (.int d1), .val (.ref b1), .val (.ref b3), .val (.int (((pp &&& (2147483647 : Int32)) % (65535 : Int32)) + (1 : Int32))), .val (.int q2), .unset, .unset, .unset, .unset] [])) := by
          intro q2 hq1 hq2
          show Done _ p e below s _ _ (T4.setTop (mkF m 168 #[.val (.int aa), .val (.int bb), .val (.int pp), .val (.int qq), .val (.int fl), .val (.int (1 : Int32)), .val (.int (1 : Int32)), .val (.int c0), .val (.int c1), .val (.int d0), .val (.int d1), .val (.ref b1), .val (.ref b3), .val (.int (((pp &&& (2147483647 : Int32)) % (65535 : Int32)) + (1 : Int32))), .val (.int q2), .unset, .unset, .unset, .unset] []))
          obtain ⟨T5, h5, X5, e5, E5, A5, D5, -, st5⟩ := newO X4 hx hZ hown (wAt hw 3 rfl) (wAt hw 4 rfl) (wAt hw 5 rfl) e4 (g := (mkF m 168 #[.val (.int aa), .val (.int bb), .val (.int pp), .val (.int qq), .val (.int fl), .val (.int (1 : Int32)), .val (.int (1 : Int32)), .val (.int c0), .val (.int c1), .val (.int d0), .val (.int d1), .val (.ref b1), .val (.ref b3), .val (.int (((pp &&& (2147483647 : Int32)) % (65535 : Int32)) + (1 : Int32))), .val (.int q2), .unset, .unset, .unset, .unset] [])) rfl (hb hby at_168) (by decide) (by decide)
          obtain ⟨b5, g5⟩ : ∃ z, z = h4.size := ⟨_, rfl⟩
          rw [← g5] at A5 D5 st5
          have f6 := ((V2.ext E3).other W4 ne_b1_b3)
          have ne_b1_b5 : b1 ≠ b5 := by rw [g5]; exact Nat.ne_of_lt f6.lt
          have ne_b3_b5 : b3 ≠ b5 := by rw [g5]; exact Nat.ne_of_lt V4.lt
          have n0_b5 : n0 ≤ b5 := by rw [g5]; exact Zs4
          have Zs5 := Nat.le_trans Zs4 E5.1
          have F_m_host_b5 : Fld Z h5 b5 "com/example/minho/minho/core/Address" "m_host" "Ljava/lang/String;" .null := D5 (Or.inr (wAt hw 46 rfl)) (ty := (.object "java/lang/String")) (by decide)
          have F_m_port_b5 : Fld Z h5 b5 "com/example/minho/minho/core/Address" "m_port" "I" (.int (0 : Int32)) := D5 (Or.inr (wAt hw 48 rfl)) (ty := .int) (by decide)
          refine Done.step st5 ?_
          show Done _ p e below s _ _ (T5.setTop (mkF m 171 #[.val (.int aa), .val (.int bb), .val (.int pp), .val (.int qq), .val (.int fl), .val (.int (1 : Int32)), .val (.int (1 : Int32)), .val (.int c0), .val (.int c1), .val (.int d0), .val (.int d1), .val (.ref b1), .val (.ref b3), .val (.int (((pp &&& (2147483647 : Int32)) % (65535 : Int32)) + (1 : Int32))), .val (.int q2), .unset, .unset, .unset, .unset] [(.ref b5)]))
          refine Done.step (fun _ => XS.dup X5.here hx rfl (hb hby at_171) rfl rfl) ?_
          show Done _ p e below s _ _ (T5.setTop (mkF m 172 #[.val (.int aa), .val (.int bb), .val (.int pp), .val (.int qq), .val (.int fl), .val (.int (1 : Int32)), .val (.int (1 : Int32)), .val (.int c0), .val (.int c1), .val (.int d0), .val (.int d1), .val (.ref b1), .val (.ref b3), .val (.int (((pp &&& (2147483647 : Int32)) % (65535 : Int32)) + (1 : Int32))), .val (.int q2), .unset, .unset, .unset, .unset] [(.ref b5), (.ref b5)]))
          obtain ⟨T7, h7, X7, e7, E7, A7, D7, -, st7⟩ := newO X5 hx hZ hown (wAt hw 6 rfl) (wAt hw 7 rfl) (wAt hw 8 rfl) e5 (g := (mkF m 172 #[.val (.int aa), .val (.int bb), .val (.int pp), .val (.int qq), .val (.int fl), .val (.int (1 : Int32)), .val (.int (1 : Int32)), .val (.int c0), .val (.int c1), .val (.int d0), .val (.int d1), .val (.ref b1), .val (.ref b3), .val (.int (((pp &&& (2147483647 : Int32)) % (65535 : Int32)) + (1 : Int32))), .val (.int q2), .unset, .unset, .unset, .unset] [(.ref b5), (.ref b5)])) rfl (hb hby at_172) (by decide) (by decide)
          obtain ⟨b7, g7⟩ : ∃ z, z = h5.size := ⟨_, rfl⟩
          rw [← g7] at A7 D7 st7
          have f8 := (f6.ext E5)
          have ne_b1_b7 : b1 ≠ b7 := by rw [g7]; exact Nat.ne_of_lt f8.lt
          have f9 := (V4.ext E5)
          have ne_b3_b7 : b3 ≠ b7 := by rw [g7]; exact Nat.ne_of_lt f9.lt
          have ne_b5_b7 : b5 ≠ b7 := by rw [g7]; exact Nat.ne_of_lt A5.lt
          have n0_b7 : n0 ≤ b7 := by rw [g7]; exact Zs5
          have Zs7 := Nat.le_trans Zs5 E7.1
          have F_coder_b7 : Fld Z h7 b7 "java/lang/String" "coder" "B" (.int (0 : Int32)) := D7 (Or.inr (wAt hw 32 rfl)) (ty := .byte) (by decide)
          have F_value_b7 : Fld Z h7 b7 "java/lang/String" "value" "[B" .null := D7 (Or.inr (wAt hw 34 rfl)) (ty := (.array .byte)) (by decide)
          refine Done.step st7 ?_
          show Done _ p e below s _ _ (T7.setTop (mkF m 175 #[.val (.int aa), .val (.int bb), .val (.int pp), .val (.int qq), .val (.int fl), .val (.int (1 : Int32)), .val (.int (1 : Int32)), .val (.int c0), .val (.int c1), .val (.int d0), .val (.int d1), .val (.ref b1), .val (.ref b3), .val (.int (((pp &&& (2147483647 : Int32)) % (65535 : Int32)) + (1 : Int32))), .val (.int q2), .unset, .unset, .unset, .unset] [(.ref b7), (.ref b5), (.ref b5)]))
          refine Done.step (fun _ => XS.dup X7.here hx rfl (hb hby at_175) rfl rfl) ?_
          show Done _ p e below s _ _ (T7.setTop (mkF m 176 #[.val (.int aa), .val (.int bb), .val (.int pp), .val (.int qq), .val (.int fl), .val (.int (1 : Int32)), .val (.int (1 : Int32)), .val (.int c0), .val (.int c1), .val (.int d0), .val (.int d1), .val (.ref b1), .val (.ref b3), .val (.int (((pp &&& (2147483647 : Int32)) % (65535 : Int32)) + (1 : Int32))), .val (.int q2), .unset, .unset, .unset, .unset] [(.ref b7), (.ref b7), (.ref b5), (.ref b5)]))
          refine Done.step (fun _ => XS.aload X7.here hx rfl (hb hby at_176) rfl rfl) ?_
          show Done _ p e below s _ _ (T7.setTop (mkF m 178 #[.val (.int aa), .val (.int bb), .val (.int pp), .val (.int qq), .val (.int fl), .val (.int (1 : Int32)), .val (.int (1 : Int32)), .val (.int c0), .val (.int c1), .val (.int d0), .val (.int d1), .val (.ref b1), .val (.ref b3), .val (.int (((pp &&& (2147483647 : Int32)) % (65535 : Int32)) + (1 : Int32))), .val (.int q2), .unset, .unset, .unset, .unset] [(.ref b1), (.ref b7), (.ref b7), (.ref b5), (.ref b5)]))
          have f11 := (f8.ext E7)
          have Vs10 : Arv Z h7 b1 k1 .char (1 : Int32) (([nar .char c0] : List Int32).map Value.int) (.int (0 : Int32)) := f11
          rw [own_nar bc0.1 (own_up [c0] (by intro c hc; cases List.mem_singleton.mp hc; exact bc0) _ (List.mem_singleton.mpr rfl)).2] at Vs10
          have hp12 : ∀ c ∈ ([c0] : List Int32), ¬ c < 0 ∧ ¬ (255 : Int32) < c := (by intro c hc; simp only [List.mem_cons, List.not_mem_nil, or_false] at hc; rcases hc with rfl <;> assumption)
          have hbd12 := own_up _ hp12
          have f13 := ((((((O0.ext E1).wr W2 n0_b1).ext E3).wr W4 n0_b3).ext E5).ext E7)
          refine Done.callIB (nc := 1) (ns := 1) X7 hx hZ rfl hown (wAt hw 9 rfl) (wAt hw 10 rfl) (wAt hw 11 rfl) (by decide) (StrChars.Road.backV (W := 3) hZ (own_hws hw) (kI := 4) (wAt hw 7 rfl) (cs := ([c0] : List Int32)) (bs := ((([c0] : List Int32)).map (fun c => c.toInt8.toInt32))) (n := 1) n0_b7 Zs7 A7 F_value_b7 F_coder_b7 Vs10 (SC.ext f13.2) hz rfl rfl (by decide) (by decide) hp12 rfl (by decide) (by decide)) e7 (g := (mkF m 178 #[.val (.int aa), .val (.int bb), .val (.int pp), .val (.int qq), .val (.int fl), .val (.int (1 : Int32)), .val (.int (1 : Int32)), .val (.int c0), .val (.int c1), .val (.int d0), .val (.int d1), .val (.ref b1), .val (.ref b3), .val (.int (((pp &&& (2147483647 : Int32)) % (65535 : Int32)) + (1 : Int32))), .val (.int q2), .unset, .unset, .unset, .unset] [(.ref b1), (.ref b7), (.ref b7), (.ref b5), (.ref b5)])) rfl (by rw [hml]; rfl) b7 [(.ref b1)] [(.ref b7), (.ref b5), (.ref b5)] (lenOf pd_4 rfl) rfl rfl (by show 2 * 0 + _ ≤ _; exact Nat.le_of_eq rfl) (hb hby at_178) (by decide) (by decide) ?_
          intro T12 v12 L12 X12 q12
          obtain ⟨rfl, Nq12, K12q, Eq12, Cq12, t12, kb12, n0_t12, szt12, net12, Vq12, Aq12⟩ := q12
          have ne_b1_t12 : b1 ≠ t12 := Nat.ne_of_lt (Nat.lt_of_lt_of_le f11.lt szt12)
          have f14 := (f9.ext E7)
          have ne_b3_t12 : b3 ≠ t12 := Nat.ne_of_lt (Nat.lt_of_lt_of_le f14.lt szt12)
          have f15 := (A5.ext E7)
          have ne_b5_t12 : b5 ≠ t12 := Nat.ne_of_lt (Nat.lt_of_lt_of_le f15.lt szt12)
          have ne_b7_t12 : b7 ≠ t12 := Ne.symm net12
          have N12 := Fr.app N4 Nq12
          have Zs12 := Nat.le_trans Zs7 K12q.1
          have hcd12 : StrChars.Road.CodA ([c0] : List Int32) 0 (1 : Int32) ((((([c0] : List Int32)).map (fun c => c.toInt8.toInt32))).map Value.int) := StrChars.Road.codOf (n := 1) rfl (fun c hc => (hp12 c hc).2)
          show Done _ p e below s _ _ (T12.setTop (mkF m 181 #[.val (.int aa), .val (.int bb), .val (.int pp), .val (.int qq), .val (.int fl), .val (.int (1 : Int32)), .val (.int (1 : Int32)), .val (.int c0), .val (.int c1), .val (.int d0), .val (.int d1), .val (.ref b1), .val (.ref b3), .val (.int (((pp &&& (2147483647 : Int32)) % (65535 : Int32)) + (1 : Int32))), .val (.int q2), .unset, .unset, .unset, .unset] [(.ref b7), (.ref b5), (.ref b5)]))
          refine Done.step (fun _ => XS.iload X12.here hx rfl (hb hby at_181) rfl) ?_
          show Done _ p e below s _ _ (T12.setTop (mkF m 183 #[.val (.int aa), .val (.int bb), .val (.int pp), .val (.int qq), .val (.int fl), .val (.int (1 : Int32)), .val (.int (1 : Int32)), .val (.int c0), .val (.int c1), .val (.int d0), .val (.int d1), .val (.ref b1), .val (.ref b3), .val (.int (((pp &&& (2147483647 : Int32)) % (65535 : Int32)) + (1 : Int32))), .val (.int q2), .unset, .unset, .unset, .unset] [(.int (((pp &&& (2147483647 : Int32)) % (65535 : Int32)) + (1 : Int32))), (.ref b7), (.ref b5), (.ref b5)]))
          have f16 := (f15.keep K12q)
          have f17 := ((F_m_host_b5.ext E7).keep K12q (ninS ne_b5_b7 nin0))
          have f18 := ((F_m_port_b5.ext E7).keep K12q (ninS ne_b5_b7 nin0))
          have f19 := (f13.keep K12q (allS n0_b7 all0))
          refine Done.callI X12 hx hZ rfl hown (wAt hw 35 rfl) (wAt hw 36 rfl) (wAt hw 5 rfl) (wAt hw 37 rfl) (by decide) (rmA l Z a0 hw [] b5 b7 t12 kb12 ([c0] : List Int32) 0 (1 : Int32) ((((([c0] : List Int32)).map (fun c => c.toInt8.toInt32))).map Value.int) (((pp &&& (2147483647 : Int32)) % (65535 : Int32)) + (1 : Int32)) z T12.heap n0 Zs12 f16 f17 f18 n0_b5 Eq12 Vq12 Cq12 Aq12 hcd12 hbd12 (Nat.le_of_ble_eq_true rfl) ne_b5_b7 ne_b5_t12 f19 SC hz (Nat.succ_ne_zero _) hport1.1 hport1.2) (fun _ _ => trivial) rfl (g := (mkF m 183 #[.val (.int aa), .val (.int bb), .val (.int pp), .val (.int qq), .val (.int fl), .val (.int (1 : Int32)), .val (.int (1 : Int32)), .val (.int c0), .val (.int c1), .val (.int d0), .val (.int d1), .val (.ref b1), .val (.ref b3), .val (.int (((pp &&& (2147483647 : Int32)) % (65535 : Int32)) + (1 : Int32))), .val (.int q2), .unset, .unset, .unset, .unset] [(.int (((pp &&& (2147483647 : Int32)) % (65535 : Int32)) + (1 : Int32))), (.ref b7), (.ref b5), (.ref b5)])) rfl (by rw [hml]; rfl) b5 [(.ref b7), (.int (((pp &&& (2147483647 : Int32)) % (65535 : Int32)) + (1 : Int32)))] [(.ref b5)] 1 (lenOf pd_5 rfl) rfl rfl (by show 2 * 0 + _ ≤ _; exact Nat.le_of_eq rfl) (hb hby at_183) (by decide) (by decide) (by decide) (by decide) ?_
          intro T20 v20 L20 X20 q20
          obtain ⟨rfl, Nq20, K20q, f20_0, f20_1, f20_2⟩ := q20
          have N20 := Fr.app N12 Nq20
          have Zs20 := Nat.le_trans Zs12 K20q.1
          show Done _ p e below s _ _ (T20.setTop (mkF m 186 #[.val (.int aa), .val (.int bb), .val (.int pp), .val (.int qq), .val (.int fl), .val (.int (1 : Int32)), .val (.int (1 : Int32)), .val (.int c0), .val (.int c1), .val (.int d0), .val (.int d1), .val (.ref b1), .val (.ref b3), .val (.int (((pp &&& (2147483647 : Int32)) % (65535 : Int32)) + (1 : Int32))), .val (.int q2), .unset, .unset, .unset, .unset] [(.ref b5)]))
          refine Done.step (fun _ => XS.astore X20.here hx rfl (hb hby at_186) rfl rfl (l' := #[.val (.int aa), .val (.int bb), .val (.int pp), .val (.int qq), .val (.int fl), .val (.int (1 : Int32)), .val (.int (1 : Int32)), .val (.int c0), .val (.int c1), .val (.int d0), .val (.int d1), .val (.ref b1), .val (.ref b3), .val (.int (((pp &&& (2147483647 : Int32)) % (65535 : Int32)) + (1 : Int32))), .val (.int q2), .val (.ref b5), .unset, .unset, .unset]) rfl) ?_
          show Done _ p e below s _ _ (T20.setTop (mkF m 188 #[.val (.int aa), .val (.int bb), .val (.int pp), .val (.int qq), .val (.int fl), .val (.int (1 : Int32)), .val (.int (1 : Int32)), .val (.int c0), .val (.int c1), .val (.int d0), .val (.int d1), .val (.ref b1), .val (.ref b3), .val (.int (((pp &&& (2147483647 : Int32)) % (65535 : Int32)) + (1 : Int32))), .val (.int q2), .val (.ref b5), .unset, .unset, .unset] []))
          obtain ⟨T21, h21, X21, e21, E21, A21, D21, -, st21⟩ := newO X20 hx hZ hown (wAt hw 3 rfl) (wAt hw 4 rfl) (wAt hw 5 rfl) rfl (g := (mkF m 188 #[.val (.int aa), .val (.int bb), .val (.int pp), .val (.int qq), .val (.int fl), .val (.int (1 : Int32)), .val (.int (1 : Int32)), .val (.int c0), .val (.int c1), .val (.int d0), .val (.int d1), .val (.ref b1), .val (.ref b3), .val (.int (((pp &&& (2147483647 : Int32)) % (65535 : Int32)) + (1 : Int32))), .val (.int q2), .val (.ref b5), .unset, .unset, .unset] [])) rfl (hb hby at_188) (by decide) (by decide)
          obtain ⟨b21, g21⟩ : ∃ z, z = T20.heap.size := ⟨_, rfl⟩
          rw [← g21] at A21 D21 st21
          have f22 := ((f11.keep K12q (ninS ne_b1_b7 nin0)).keep K20q (ninS ne_b1_b5 nin0))
          have ne_b1_b21 : b1 ≠ b21 := by rw [g21]; exact Nat.ne_of_lt f22.lt
          have f23 := ((f14.keep K12q (ninS ne_b3_b7 nin0)).keep K20q (ninS ne_b3_b5 nin0))
          have ne_b3_b21 : b3 ≠ b21 := by rw [g21]; exact Nat.ne_of_lt f23.lt
          have ne_b5_b21 : b5 ≠ b21 := by rw [g21]; exact Nat.ne_of_lt f20_0.lt
          have f24 := (Eq12.keep K20q)
          have ne_b7_b21 : b7 ≠ b21 := by rw [g21]; exact Nat.ne_of_lt f24.lt
          have f25 := (Aq12.keep K20q (ninS (Ne.symm ne_b5_t12) nin0))
          have ne_t12_b21 : t12 ≠ b21 := by rw [g21]; exact Nat.ne_of_lt f25.lt
          have n0_b21 : n0 ≤ b21 := by rw [g21]; exact Zs20
          have Zs21 := Nat.le_trans Zs20 E21.1
          have F_m_host_b21 : Fld Z h21 b21 "com/example/minho/minho/core/Address" "m_host" "Ljava/lang/String;" .null := D21 (Or.inr (wAt hw 46 rfl)) (ty := (.object "java/lang/String")) (by decide)
          have F_m_port_b21 : Fld Z h21 b21 "com/example/minho/minho/core/Address" "m_port" "I" (.int (0 : Int32)) := D21 (Or.inr (wAt hw 48 rfl)) (ty := .int) (by decide)
          refine Done.step st21 ?_
          show Done _ p e below s _ _ (T21.setTop (mkF m 191 #[.val (.int aa), .val (.int bb), .val (.int pp), .val (.int qq), .val (.int fl), .val (.int (1 : Int32)), .val (.int (1 : Int32)), .val (.int c0), .val (.int c1), .val (.int d0), .val (.int d1), .val (.ref b1), .val (.ref b3), .val (.int (((pp &&& (2147483647 : Int32)) % (65535 : Int32)) + (1 : Int32))), .val (.int q2), .val (.ref b5), .unset, .unset, .unset] [(.ref b21)]))
          refine Done.step (fun _ => XS.dup X21.here hx rfl (hb hby at_191) rfl rfl) ?_
          show Done _ p e below s _ _ (T21.setTop (mkF m 192 #[.val (.int aa), .val (.int bb), .val (.int pp), .val (.int qq), .val (.int fl), .val (.int (1 : Int32)), .val (.int (1 : Int32)), .val (.int c0), .val (.int c1), .val (.int d0), .val (.int d1), .val (.ref b1), .val (.ref b3), .val (.int (((pp &&& (2147483647 : Int32)) % (65535 : Int32)) + (1 : Int32))), .val (.int q2), .val (.ref b5), .unset, .unset, .unset] [(.ref b21), (.ref b21)]))
          obtain ⟨T26, h26, X26, e26, E26, A26, D26, -, st26⟩ := newO X21 hx hZ hown (wAt hw 6 rfl) (wAt hw 7 rfl) (wAt hw 8 rfl) e21 (g := (mkF m 192 #[.val (.int aa), .val (.int bb), .val (.int pp), .val (.int qq), .val (.int fl), .val (.int (1 : Int32)), .val (.int (1 : Int32)), .val (.int c0), .val (.int c1), .val (.int d0), .val (.int d1), .val (.ref b1), .val (.ref b3), .val (.int (((pp &&& (2147483647 : Int32)) % (65535 : Int32)) + (1 : Int32))), .val (.int q2), .val (.ref b5), .unset, .unset, .unset] [(.ref b21), (.ref b21)])) rfl (hb hby at_192) (by decide) (by decide)
          obtain ⟨b26, g26⟩ : ∃ z, z = h21.size := ⟨_, rfl⟩
          rw [← g26] at A26 D26 st26
          have f27 := (f22.ext E21)
          have ne_b1_b26 : b1 ≠ b26 := by rw [g26]; exact Nat.ne_of_lt f27.lt
          have f28 := (f23.ext E21)
          have ne_b3_b26 : b3 ≠ b26 := by rw [g26]; exact Nat.ne_of_lt f28.lt
          have f29 := (f20_0.ext E21)
          have ne_b5_b26 : b5 ≠ b26 := by rw [g26]; exact Nat.ne_of_lt f29.lt
          have f30 := (f24.ext E21)
          have ne_b7_b26 : b7 ≠ b26 := by rw [g26]; exact Nat.ne_of_lt f30.lt
          have f31 := (f25.ext E21)
          have ne_t12_b26 : t12 ≠ b26 := by rw [g26]; exact Nat.ne_of_lt f31.lt
          have ne_b21_b26 : b21 ≠ b26 := by rw [g26]; exact Nat.ne_of_lt A21.lt
          have n0_b26 : n0 ≤ b26 := by rw [g26]; exact Zs21
          have Zs26 := Nat.le_trans Zs21 E26.1
          have F_coder_b26 : Fld Z h26 b26 "java/lang/String" "coder" "B" (.int (0 : Int32)) := D26 (Or.inr (wAt hw 32 rfl)) (ty := .byte) (by decide)
          have F_value_b26 : Fld Z h26 b26 "java/lang/String" "value" "[B" .null := D26 (Or.inr (wAt hw 34 rfl)) (ty := (.array .byte)) (by decide)
          refine Done.step st26 ?_
          show Done _ p e below s _ _ (T26.setTop (mkF m 195 #[.val (.int aa), .val (.int bb), .val (.int pp), .val (.int qq), .val (.int fl), .val (.int (1 : Int32)), .val (.int (1 : Int32)), .val (.int c0), .val (.int c1), .val (.int d0), .val (.int d1), .val (.ref b1), .val (.ref b3), .val (.int (((pp &&& (2147483647 : Int32)) % (65535 : Int32)) + (1 : Int32))), .val (.int q2), .val (.ref b5), .unset, .unset, .unset] [(.ref b26), (.ref b21), (.ref b21)]))
          refine Done.step (fun _ => XS.dup X26.here hx rfl (hb hby at_195) rfl rfl) ?_
          show Done _ p e below s _ _ (T26.setTop (mkF m 196 #[.val (.int aa), .val (.int bb), .val (.int pp), .val (.int qq), .val (.int fl), .val (.int (1 : Int32)), .val (.int (1 : Int32)), .val (.int c0), .val (.int c1), .val (.int d0), .val (.int d1), .val (.ref b1), .val (.ref b3), .val (.int (((pp &&& (2147483647 : Int32)) % (65535 : Int32)) + (1 : Int32))), .val (.int q2), .val (.ref b5), .unset, .unset, .unset] [(.ref b26), (.ref b26), (.ref b21), (.ref b21)]))
          refine Done.step (fun _ => XS.aload X26.here hx rfl (hb hby at_196) rfl rfl) ?_
          show Done _ p e below s _ _ (T26.setTop (mkF m 198 #[.val (.int aa), .val (.int bb), .val (.int pp), .val (.int qq), .val (.int fl), .val (.int (1 : Int32)), .val (.int (1 : Int32)), .val (.int c0), .val (.int c1), .val (.int d0), .val (.int d1), .val (.ref b1), .val (.ref b3), .val (.int (((pp &&& (2147483647 : Int32)) % (65535 : Int32)) + (1 : Int32))), .val (.int q2), .val (.ref b5), .unset, .unset, .unset] [(.ref b3), (.ref b26), (.ref b26), (.ref b21), (.ref b21)]))
          have f33 := (f28.ext E26)
          have Vs32 : Arv Z h26 b3 k3 .char (1 : Int32) (([nar .char d0] : List Int32).map Value.int) (.int (0 : Int32)) := f33
          rw [own_nar bd0.1 (own_up [d0] (by intro c hc; cases List.mem_singleton.mp hc; exact bd0) _ (List.mem_singleton.mpr rfl)).2] at Vs32
          have hp34 : ∀ c ∈ ([d0] : List Int32), ¬ c < 0 ∧ ¬ (255 : Int32) < c := (by intro c hc; simp only [List.mem_cons, List.not_mem_nil, or_false] at hc; rcases hc with rfl <;> assumption)
          have hbd34 := own_up _ hp34
          have f35 := (((f19.keep K20q (allS n0_b5 all0)).ext E21).ext E26)
          refine Done.callIB (nc := 1) (ns := 1) X26 hx hZ rfl hown (wAt hw 9 rfl) (wAt hw 10 rfl) (wAt hw 11 rfl) (by decide) (StrChars.Road.backV (W := 3) hZ (own_hws hw) (kI := 4) (wAt hw 7 rfl) (cs := ([d0] : List Int32)) (bs := ((([d0] : List Int32)).map (fun c => c.toInt8.toInt32))) (n := 1) n0_b26 Zs26 A26 F_value_b26 F_coder_b26 Vs32 (SC.ext f35.2) hz rfl rfl (by decide) (by decide) hp34 rfl (by decide) (by decide)) e26 (g := (mkF m 198 #[.val (.int aa), .val (.int bb), .val (.int pp), .val (.int qq), .val (.int fl), .val (.int (1 : Int32)), .val (.int (1 : Int32)), .val (.int c0), .val (.int c1), .val (.int d0), .val (.int d1), .val (.ref b1), .val (.ref b3), .val (.int (((pp &&& (2147483647 : Int32)) % (65535 : Int32)) + (1 : Int32))), .val (.int q2), .val (.ref b5), .unset, .unset, .unset] [(.ref b3), (.ref b26), (.ref b26), (.ref b21), (.ref b21)])) rfl (by rw [hml]; rfl) b26 [(.ref b3)] [(.ref b26), (.ref b21), (.ref b21)] (lenOf pd_4 rfl) rfl rfl (by show 2 * 0 + _ ≤ _; exact Nat.le_of_eq rfl) (hb hby at_198) (by decide) (by decide) ?_
          intro T34 v34 L34 X34 q34
          obtain ⟨rfl, Nq34, K34q, Eq34, Cq34, t34, kb34, n0_t34, szt34, net34, Vq34, Aq34⟩ := q34
          have f36 := (f27.ext E26)
          have ne_b1_t34 : b1 ≠ t34 := Nat.ne_of_lt (Nat.lt_of_lt_of_le f36.lt szt34)
          have ne_b3_t34 : b3 ≠ t34 := Nat.ne_of_lt (Nat.lt_of_lt_of_le f33.lt szt34)
          have f37 := (f29.ext E26)
          have ne_b5_t34 : b5 ≠ t34 := Nat.ne_of_lt (Nat.lt_of_lt_of_le f37.lt szt34)
          have f38 := (f30.ext E26)
          have ne_b7_t34 : b7 ≠ t34 := Nat.ne_of_lt (Nat.lt_of_lt_of_le f38.lt szt34)
          have f39 := (f31.ext E26)
          have ne_t12_t34 : t12 ≠ t34 := Nat.ne_of_lt (Nat.lt_of_lt_of_le f39.lt szt34)
          have f40 := (A21.ext E26)
          have ne_b21_t34 : b21 ≠ t34 := Nat.ne_of_lt (Nat.lt_of_lt_of_le f40.lt szt34)
          have ne_b26_t34 : b26 ≠ t34 := Ne.symm net34
          have N34 := Fr.app N20 Nq34
          have Zs34 := Nat.le_trans Zs26 K34q.1
          have hcd34 : StrChars.Road.CodA ([d0] : List Int32) 0 (1 : Int32) ((((([d0] : List Int32)).map (fun c => c.toInt8.toInt32))).map Value.int) := StrChars.Road.codOf (n := 1) rfl (fun c hc => (hp34 c hc).2)
          show Done _ p e below s _ _ (T34.setTop (mkF m 201 #[.val (.int aa), .val (.int bb), .val (.int pp), .val (.int qq), .val (.int fl), .val (.int (1 : Int32)), .val (.int (1 : Int32)), .val (.int c0), .val (.int c1), .val (.int d0), .val (.int d1), .val (.ref b1), .val (.ref b3), .val (.int (((pp &&& (2147483647 : Int32)) % (65535 : Int32)) + (1 : Int32))), .val (.int q2), .val (.ref b5), .unset, .unset, .unset] [(.ref b26), (.ref b21), (.ref b21)]))
          refine Done.step (fun _ => XS.iload X34.here hx rfl (hb hby at_201) rfl) ?_
          show Done _ p e below s _ _ (T34.setTop (mkF m 203 #[.val (.int aa), .val (.int bb), .val (.int pp), .val (.int qq), .val (.int fl), .val (.int (1 : Int32)), .val (.int (1 : Int32)), .val (.int c0), .val (.int c1), .val (.int d0), .val (.int d1), .val (.ref b1), .val (.ref b3), .val (.int (((pp &&& (2147483647 : Int32)) % (65535 : Int32)) + (1 : Int32))), .val (.int q2), .val (.ref b5), .unset, .unset, .unset] [(.int q2), (.ref b26), (.ref b21), (.ref b21)]))
          have f41 := (f40.keep K34q)
          have f42 := ((F_m_host_b21.ext E26).keep K34q (ninS ne_b21_b26 nin0))
          have f43 := ((F_m_port_b21.ext E26).keep K34q (ninS ne_b21_b26 nin0))
          have f44 := (f35.keep K34q (allS n0_b26 all0))
          refine Done.callI X34 hx hZ rfl hown (wAt hw 35 rfl) (wAt hw 36 rfl) (wAt hw 5 rfl) (wAt hw 37 rfl) (by decide) (rmA l Z a0 hw [] b21 b26 t34 kb34 ([d0] : List Int32) 0 (1 : Int32) ((((([d0] : List Int32)).map (fun c => c.toInt8.toInt32))).map Value.int) q2 z T34.heap n0 Zs34 f41 f42 f43 n0_b21 Eq34 Vq34 Cq34 Aq34 hcd34 hbd34 (Nat.le_of_ble_eq_true rfl) ne_b21_b26 ne_b21_t34 f44 SC hz (Nat.succ_ne_zero _) hq1 hq2) (fun _ _ => trivial) rfl (g := (mkF m 203 #[.val (.int aa), .val (.int bb), .val (.int pp), .val (.int qq), .val (.int fl), .val (.int (1 : Int32)), .val (.int (1 : Int32)), .val (.int c0), .val (.int c1), .val (.int d0), .val (.int d1), .val (.ref b1), .val (.ref b3), .val (.int (((pp &&& (2147483647 : Int32)) % (65535 : Int32)) + (1 : Int32))), .val (.int q2), .val (.ref b5), .unset, .unset, .unset] [(.int q2), (.ref b26), (.ref b21), (.ref b21)])) rfl (by rw [hml]; rfl) b21 [(.ref b26), (.int q2)] [(.ref b21)] 1 (lenOf pd_5 rfl) rfl rfl (by show 2 * 0 + _ ≤ _; exact Nat.le_of_eq rfl) (hb hby at_203) (by decide) (by decide) (by decide) (by decide) ?_
          intro T45 v45 L45 X45 q45
          obtain ⟨rfl, Nq45, K45q, f45_0, f45_1, f45_2⟩ := q45
          have N45 := Fr.app N34 Nq45
          have Zs45 := Nat.le_trans Zs34 K45q.1
          show Done _ p e below s _ _ (T45.setTop (mkF m 206 #[.val (.int aa), .val (.int bb), .val (.int pp), .val (.int qq), .val (.int fl), .val (.int (1 : Int32)), .val (.int (1 : Int32)), .val (.int c0), .val (.int c1), .val (.int d0), .val (.int d1), .val (.ref b1), .val (.ref b3), .val (.int (((pp &&& (2147483647 : Int32)) % (65535 : Int32)) + (1 : Int32))), .val (.int q2), .val (.ref b5), .unset, .unset, .unset] [(.ref b21)]))
          refine Done.step (fun _ => XS.astore X45.here hx rfl (hb hby at_206) rfl rfl (l' := #[.val (.int aa), .val (.int bb), .val (.int pp), .val (.int qq), .val (.int fl), .val (.int (1 : Int32)), .val (.int (1 : Int32)), .val (.int c0), .val (.int c1), .val (.int d0), .val (.int d1), .val (.ref b1), .val (.ref b3), .val (.int (((pp &&& (2147483647 : Int32)) % (65535 : Int32)) + (1 : Int32))), .val (.int q2), .val (.ref b5), .val (.ref b21), .unset, .unset]) rfl) ?_
          show Done _ p e below s _ _ (T45.setTop (mkF m 208 #[.val (.int aa), .val (.int bb), .val (.int pp), .val (.int qq), .val (.int fl), .val (.int (1 : Int32)), .val (.int (1 : Int32)), .val (.int c0), .val (.int c1), .val (.int d0), .val (.int d1), .val (.ref b1), .val (.ref b3), .val (.int (((pp &&& (2147483647 : Int32)) % (65535 : Int32)) + (1 : Int32))), .val (.int q2), .val (.ref b5), .val (.ref b21), .unset, .unset] []))
          have K249 : ∀ (ex : Int32) (hex : ex = bP (([d0] : List Int32) = ([c0] : List Int32) ∧ q2 = (((pp &&& (2147483647 : Int32)) % (65535 : Int32)) + (1 : Int32)))), Done FrameEnd p e below s room_1 (LawQ n0) (T45.setTop (mkF m 249 #[.val (.int aa), .val (.int bb), .val (.int pp), .val (.int qq), .val (.int fl), .val (.int (1 : Int32)), .val (.int (1 : Int32)), .val (.int c0), .val (.int c1), .val (.int d0), .val (.int d1), .val (.ref b1), .val (.ref b3), .val (.int (((pp &&& (2147483647 : Int32)) % (65535 : Int32)) + (1 : Int32))), .val (.int q2), .val (.ref b5), .val (.ref b21), .val (.int ex), .unset] [])) := by
            intro ex hex
            show Done _ p e below s _ _ (T45.setTop (mkF m 249 #[.val (.int aa), .val (.int bb), .val (.int pp), .val (.int qq), .val (.int fl), .val (.int (1 : Int32)), .val (.int (1 : Int32)), .val (.int c0), .val (.int c1), .val (.int d0), .val (.int d1), .val (.ref b1), .val (.ref b3), .val (.int (((pp &&& (2147483647 : Int32)) % (65535 : Int32)) + (1 : Int32))), .val (.int q2), .val (.ref b5), .val (.ref b21), .val (.int ex), .unset] []))
            refine Done.step (fun _ => XS.iload X45.here hx rfl (hb hby at_249) rfl) ?_
            show Done _ p e below s _ _ (T45.setTop (mkF m 251 #[.val (.int aa), .val (.int bb), .val (.int pp), .val (.int qq), .val (.int fl), .val (.int (1 : Int32)), .val (.int (1 : Int32)), .val (.int c0), .val (.int c1), .val (.int d0), .val (.int d1), .val (.ref b1), .val (.ref b3), .val (.int (((pp &&& (2147483647 : Int32)) % (65535 : Int32)) + (1 : Int32))), .val (.int q2), .val (.ref b5), .val (.ref b21), .val (.int ex), .unset] [(.int (((pp &&& (2147483647 : Int32)) % (65535 : Int32)) + (1 : Int32)))]))
            have f47 := (f44.keep K45q (allS n0_b21 all0))
            refine Done.callS X45 hx hZ hown (wAt hw 49 rfl) (wAt hw 50 rfl) (wAt hw 51 rfl) (wAt hw 52 rfl) (by decide) (rmV l Z a0 hw [] (((pp &&& (2147483647 : Int32)) % (65535 : Int32)) + (1 : Int32)) cA cl T45.heap n0 Zs45 f47 SH SK CA hsz hel hport1.1) (fun _ _ => trivial) rfl (g := (mkF m 251 #[.val (.int aa), .val (.int bb), .val (.int pp), .val (.int qq), .val (.int fl), .val (.int (1 : Int32)), .val (.int (1 : Int32)), .val (.int c0), .val (.int c1), .val (.int d0), .val (.int d1), .val (.ref b1), .val (.ref b3), .val (.int (((pp &&& (2147483647 : Int32)) % (65535 : Int32)) + (1 : Int32))), .val (.int q2), .val (.ref b5), .val (.ref b21), .val (.int ex), .unset] [(.int (((pp &&& (2147483647 : Int32)) % (65535 : Int32)) + (1 : Int32)))])) rfl (by rw [hml]; rfl) [(.int (((pp &&& (2147483647 : Int32)) % (65535 : Int32)) + (1 : Int32)))] [] 0 (lenOf pd_6 rfl) rfl rfl (by show 2 * 0 + _ ≤ _; exact Nat.le_of_eq rfl) (hb hby at_251) (by decide) (by decide) (by decide) (by decide) ?_
            intro T46 v46 L46 X46 q46
            obtain ⟨rI, rfl, Nq46, K46q, Er46⟩ := q46
            have N46 := Fr.app N45 Nq46
            have Zs46 := Nat.le_trans Zs45 K46q.1
            show Done _ p e below s _ _ (T46.setTop (mkF m 254 #[.val (.int aa), .val (.int bb), .val (.int pp), .val (.int qq), .val (.int fl), .val (.int (1 : Int32)), .val (.int (1 : Int32)), .val (.int c0), .val (.int c1), .val (.int d0), .val (.int d1), .val (.ref b1), .val (.ref b3), .val (.int (((pp &&& (2147483647 : Int32)) % (65535 : Int32)) + (1 : Int32))), .val (.int q2), .val (.ref b5), .val (.ref b21), .val (.int ex), .unset] [(.ref rI)]))
            refine Done.step (fun _ => XS.astore X46.here hx rfl (hb hby at_254) rfl rfl (l' := #[.val (.int aa), .val (.int bb), .val (.int pp), .val (.int qq), .val (.int fl), .val (.int (1 : Int32)), .val (.int (1 : Int32)), .val (.int c0), .val (.int c1), .val (.int d0), .val (.int d1), .val (.ref b1), .val (.ref b3), .val (.int (((pp &&& (2147483647 : Int32)) % (65535 : Int32)) + (1 : Int32))), .val (.int q2), .val (.ref b5), .val (.ref b21), .val (.int ex), .val (.ref rI)]) rfl) ?_
            show Done _ p e below s _ _ (T46.setTop (mkF m 256 #[.val (.int aa), .val (.int bb), .val (.int pp), .val (.int qq), .val (.int fl), .val (.int (1 : Int32)), .val (.int (1 : Int32)), .val (.int c0), .val (.int c1), .val (.int d0), .val (.int d1), .val (.ref b1), .val (.ref b3), .val (.int (((pp &&& (2147483647 : Int32)) % (65535 : Int32)) + (1 : Int32))), .val (.int q2), .val (.ref b5), .val (.ref b21), .val (.int ex), .val (.ref rI)] []))
            refine Done.step (fun _ => XS.aload X46.here hx rfl (hb hby at_256) rfl rfl) ?_
            show Done _ p e below s _ _ (T46.setTop (mkF m 258 #[.val (.int aa), .val (.int bb), .val (.int pp), .val (.int qq), .val (.int fl), .val (.int (1 : Int32)), .val (.int (1 : Int32)), .val (.int c0), .val (.int c1), .val (.int d0), .val (.int d1), .val (.ref b1), .val (.ref b3), .val (.int (((pp &&& (2147483647 : Int32)) % (65535 : Int32)) + (1 : Int32))), .val (.int q2), .val (.ref b5), .val (.ref b21), .val (.int ex), .val (.ref rI)] [(.ref b5)]))
            refine Done.step (fun _ => XS.aload X46.here hx rfl (hb hby at_258) rfl rfl) ?_
            show Done _ p e below s _ _ (T46.setTop (mkF m 260 #[.val (.int aa), .val (.int bb), .val (.int pp), .val (.int qq), .val (.int fl), .val (.int (1 : Int32)), .val (.int (1 : Int32)), .val (.int c0), .val (.int c1), .val (.int d0), .val (.int d1), .val (.ref b1), .val (.ref b3), .val (.int (((pp &&& (2147483647 : Int32)) % (65535 : Int32)) + (1 : Int32))), .val (.int q2), .val (.ref b5), .val (.ref b21), .val (.int ex), .val (.ref rI)] [(.ref b21), (.ref b5)]))
            have f48 := (((f38.keep K34q).keep K45q).keep K46q)
            have f49 := ((((((Vq12.keep K20q (ninS (Ne.symm ne_b5_b7) nin0)).ext E21).ext E26).keep K34q (ninS ne_b7_b26 nin0)).keep K45q (ninS ne_b7_b21 nin0)).keep K46q nin0)
            have f50 := ((((((Cq12.keep K20q (ninS (Ne.symm ne_b5_b7) nin0)).ext E21).ext E26).keep K34q (ninS ne_b7_b26 nin0)).keep K45q (ninS ne_b7_b21 nin0)).keep K46q nin0)
            have f51 := (((f39.keep K34q (ninS ne_t12_b26 nin0)).keep K45q (ninS ne_t12_b21 nin0)).keep K46q nin0)
            have f52 := ((Eq34.keep K45q).keep K46q)
            have f53 := ((Vq34.keep K45q (ninS (Ne.symm ne_b21_b26) nin0)).keep K46q nin0)
            have f54 := ((Cq34.keep K45q (ninS (Ne.symm ne_b21_b26) nin0)).keep K46q nin0)
            have f55 := ((Aq34.keep K45q (ninS (Ne.symm ne_b21_t34) nin0)).keep K46q nin0)
            have f56 := (f45_0.keep K46q)
            have f57 := (((((f20_1.ext E21).ext E26).keep K34q (ninS ne_b5_b26 nin0)).keep K45q (ninS ne_b5_b21 nin0)).keep K46q nin0)
            have f58 := (((((f20_2.ext E21).ext E26).keep K34q (ninS ne_b5_b26 nin0)).keep K45q (ninS ne_b5_b21 nin0)).keep K46q nin0)
            have f59 := (f45_1.keep K46q nin0)
            have f60 := (f45_2.keep K46q nin0)
            have f61 := (f47.keep K46q all0)
            have f63 := (((f37.keep K34q).keep K45q).keep K46q)
            refine Done.callVP X46 hx hZ (C := "com/example/minho/minho/core/Address") hown (wAt hw 56 rfl) (wAt hw 57 rfl) (notFace_of_selects (args := #[]) (mvT hZ (wAt hw 59 rfl))) (wAt hw 59 rfl) (wAt hw 58 rfl) (wAt hw 5 rfl) (wAt hw 60 rfl) (by decide) (rmE l Z a0 hw [] b5 b21 b7 t12 kb12 ([c0] : List Int32) 0 (1 : Int32) ((((([c0] : List Int32)).map (fun c => c.toInt8.toInt32))).map Value.int) b26 t34 kb34 ([d0] : List Int32) 0 (1 : Int32) ((((([d0] : List Int32)).map (fun c => c.toInt8.toInt32))).map Value.int) (((pp &&& (2147483647 : Int32)) % (65535 : Int32)) + (1 : Int32)) q2 ex z T46.heap n0 Zs46 f56 f57 f58 f59 f60 f48 f49 f50 f51 hcd12 hbd12 (Nat.le_of_ble_eq_true rfl) f52 f53 f54 f55 hcd34 hbd34 (Nat.le_of_ble_eq_true rfl) f61 SC hz hex) rfl f63 (g := (mkF m 260 #[.val (.int aa), .val (.int bb), .val (.int pp), .val (.int qq), .val (.int fl), .val (.int (1 : Int32)), .val (.int (1 : Int32)), .val (.int c0), .val (.int c1), .val (.int d0), .val (.int d1), .val (.ref b1), .val (.ref b3), .val (.int (((pp &&& (2147483647 : Int32)) % (65535 : Int32)) + (1 : Int32))), .val (.int q2), .val (.ref b5), .val (.ref b21), .val (.int ex), .val (.ref rI)] [(.ref b21), (.ref b5)])) rfl (by rw [hml]; rfl) [(.ref b21)] [] 0 (lenOf pd_1 rfl) rfl rfl (by show 2 * 0 + _ ≤ _; exact Nat.le_of_eq rfl) (hb hby at_260) (by decide) (by decide) (by decide) (by decide) rfl rfl ?_
            intro T62 X62 e62
            show Done _ p e below s _ _ (T62.setTop (mkF m 263 #[.val (.int aa), .val (.int bb), .val (.int pp), .val (.int qq), .val (.int fl), .val (.int (1 : Int32)), .val (.int (1 : Int32)), .val (.int c0), .val (.int c1), .val (.int d0), .val (.int d1), .val (.ref b1), .val (.ref b3), .val (.int (((pp &&& (2147483647 : Int32)) % (65535 : Int32)) + (1 : Int32))), .val (.int q2), .val (.ref b5), .val (.ref b21), .val (.int ex), .val (.ref rI)] [(.int ex)]))
            refine Done.step (fun _ => XS.iload X62.here hx rfl (hb hby at_263) rfl) ?_
            show Done _ p e below s _ _ (T62.setTop (mkF m 265 #[.val (.int aa), .val (.int bb), .val (.int pp), .val (.int qq), .val (.int fl), .val (.int (1 : Int32)), .val (.int (1 : Int32)), .val (.int c0), .val (.int c1), .val (.int d0), .val (.int d1), .val (.ref b1), .val (.ref b3), .val (.int (((pp &&& (2147483647 : Int32)) % (65535 : Int32)) + (1 : Int32))), .val (.int q2), .val (.ref b5), .val (.ref b21), .val (.int ex), .val (.ref rI)] [(.int ex), (.int ex)]))
            refine Done.step (fun _ => XS.icmpNo X62.here hx rfl (hb hby at_265) rfl (XT.ii_ne_f rfl)) ?_
            show Done _ p e below s _ _ (T62.setTop (mkF m 268 #[.val (.int aa), .val (.int bb), .val (.int pp), .val (.int qq), .val (.int fl), .val (.int (1 : Int32)), .val (.int (1 : Int32)), .val (.int c0), .val (.int c1), .val (.int d0), .val (.int d1), .val (.ref b1), .val (.ref b3), .val (.int (((pp &&& (2147483647 : Int32)) % (65535 : Int32)) + (1 : Int32))), .val (.int q2), .val (.ref b5), .val (.ref b21), .val (.int ex), .val (.ref rI)] []))
            refine Done.step (fun _ => XS.aload X62.here hx rfl (hb hby at_268) rfl rfl) ?_
            show Done _ p e below s _ _ (T62.setTop (mkF m 270 #[.val (.int aa), .val (.int bb), .val (.int pp), .val (.int qq), .val (.int fl), .val (.int (1 : Int32)), .val (.int (1 : Int32)), .val (.int c0), .val (.int c1), .val (.int d0), .val (.int d1), .val (.ref b1), .val (.ref b3), .val (.int (((pp &&& (2147483647 : Int32)) % (65535 : Int32)) + (1 : Int32))), .val (.int q2), .val (.ref b5), .val (.ref b21), .val (.int ex), .val (.ref rI)] [(.ref b21)]))
            refine Done.step (fun _ => XS.aload X62.here hx rfl (hb hby at_270) rfl rfl) ?_
            show Done _ p e below s _ _ (T62.setTop (mkF m 272 #[.val (.int aa), .val (.int bb), .val (.int pp), .val (.int qq), .val (.int fl), .val (.int (1 : Int32)), .val (.int (1 : Int32)), .val (.int c0), .val (.int c1), .val (.int d0), .val (.int d1), .val (.ref b1), .val (.ref b3), .val (.int (((pp &&& (2147483647 : Int32)) % (65535 : Int32)) + (1 : Int32))), .val (.int q2), .val (.ref b5), .val (.ref b21), .val (.int ex), .val (.ref rI)] [(.ref b5), (.ref b21)]))
            refine Done.callVP X62 hx hZ (C := "com/example/minho/minho/core/Address") hown (wAt hw 56 rfl) (wAt hw 57 rfl) (notFace_of_selects (args := #[]) (mvT hZ (wAt hw 59 rfl))) (wAt hw 59 rfl) (wAt hw 58 rfl) (wAt hw 5 rfl) (wAt hw 60 rfl) (by decide) (rmE l Z a0 hw [] b21 b5 b26 t34 kb34 ([d0] : List Int32) 0 (1 : Int32) ((((([d0] : List Int32)).map (fun c => c.toInt8.toInt32))).map Value.int) b7 t12 kb12 ([c0] : List Int32) 0 (1 : Int32) ((((([c0] : List Int32)).map (fun c => c.toInt8.toInt32))).map Value.int) q2 (((pp &&& (2147483647 : Int32)) % (65535 : Int32)) + (1 : Int32)) ex z T46.heap n0 Zs46 f63 f59 f60 f57 f58 f52 f53 f54 f55 hcd34 hbd34 (Nat.le_of_ble_eq_true rfl) f48 f49 f50 f51 hcd12 hbd12 (Nat.le_of_ble_eq_true rfl) f61 SC hz (hex.trans (own_bpc _ _ _ _))) e62 f56 (g := (mkF m 272 #[.val (.int aa), .val (.int bb), .val (.int pp), .val (.int qq), .val (.int fl), .val (.int (1 : Int32)), .val (.int (1 : Int32)), .val (.int c0), .val (.int c1), .val (.int d0), .val (.int d1), .val (.ref b1), .val (.ref b3), .val (.int (((pp &&& (2147483647 : Int32)) % (65535 : Int32)) + (1 : Int32))), .val (.int q2), .val (.ref b5), .val (.ref b21), .val (.int ex), .val (.ref rI)] [(.ref b5), (.ref b21)])) rfl (by rw [hml]; rfl) [(.ref b5)] [] 0 (lenOf pd_1 rfl) rfl rfl (by show 2 * 0 + _ ≤ _; exact Nat.le_of_eq rfl) (hb hby at_272) (by decide) (by decide) (by decide) (by decide) rfl rfl ?_
            intro T64 X64 e64
            show Done _ p e below s _ _ (T64.setTop (mkF m 275 #[.val (.int aa), .val (.int bb), .val (.int pp), .val (.int qq), .val (.int fl), .val (.int (1 : Int32)), .val (.int (1 : Int32)), .val (.int c0), .val (.int c1), .val (.int d0), .val (.int d1), .val (.ref b1), .val (.ref b3), .val (.int (((pp &&& (2147483647 : Int32)) % (65535 : Int32)) + (1 : Int32))), .val (.int q2), .val (.ref b5), .val (.ref b21), .val (.int ex), .val (.ref rI)] [(.int ex)]))
            refine Done.step (fun _ => XS.iload X64.here hx rfl (hb hby at_275) rfl) ?_
            show Done _ p e below s _ _ (T64.setTop (mkF m 277 #[.val (.int aa), .val (.int bb), .val (.int pp), .val (.int qq), .val (.int fl), .val (.int (1 : Int32)), .val (.int (1 : Int32)), .val (.int c0), .val (.int c1), .val (.int d0), .val (.int d1), .val (.ref b1), .val (.ref b3), .val (.int (((pp &&& (2147483647 : Int32)) % (65535 : Int32)) + (1 : Int32))), .val (.int q2), .val (.ref b5), .val (.ref b21), .val (.int ex), .val (.ref rI)] [(.int ex), (.int ex)]))
            refine Done.step (fun _ => XS.icmpNo X64.here hx rfl (hb hby at_277) rfl (XT.ii_ne_f rfl)) ?_
            show Done _ p e below s _ _ (T64.setTop (mkF m 280 #[.val (.int aa), .val (.int bb), .val (.int pp), .val (.int qq), .val (.int fl), .val (.int (1 : Int32)), .val (.int (1 : Int32)), .val (.int c0), .val (.int c1), .val (.int d0), .val (.int d1), .val (.ref b1), .val (.ref b3), .val (.int (((pp &&& (2147483647 : Int32)) % (65535 : Int32)) + (1 : Int32))), .val (.int q2), .val (.ref b5), .val (.ref b21), .val (.int ex), .val (.ref rI)] []))
            refine Done.step (fun _ => XS.aload X64.here hx rfl (hb hby at_280) rfl rfl) ?_
            show Done _ p e below s _ _ (T64.setTop (mkF m 282 #[.val (.int aa), .val (.int bb), .val (.int pp), .val (.int qq), .val (.int fl), .val (.int (1 : Int32)), .val (.int (1 : Int32)), .val (.int c0), .val (.int c1), .val (.int d0), .val (.int d1), .val (.ref b1), .val (.ref b3), .val (.int (((pp &&& (2147483647 : Int32)) % (65535 : Int32)) + (1 : Int32))), .val (.int q2), .val (.ref b5), .val (.ref b21), .val (.int ex), .val (.ref rI)] [(.ref b5)]))
            refine Done.step (fun _ => XS.aload X64.here hx rfl (hb hby at_282) rfl rfl) ?_
            show Done _ p e below s _ _ (T64.setTop (mkF m 284 #[.val (.int aa), .val (.int bb), .val (.int pp), .val (.int qq), .val (.int fl), .val (.int (1 : Int32)), .val (.int (1 : Int32)), .val (.int c0), .val (.int c1), .val (.int d0), .val (.int d1), .val (.ref b1), .val (.ref b3), .val (.int (((pp &&& (2147483647 : Int32)) % (65535 : Int32)) + (1 : Int32))), .val (.int q2), .val (.ref b5), .val (.ref b21), .val (.int ex), .val (.ref rI)] [(.ref b5), (.ref b5)]))
            refine Done.callVP X64 hx hZ (C := "com/example/minho/minho/core/Address") hown (wAt hw 56 rfl) (wAt hw 57 rfl) (notFace_of_selects (args := #[]) (mvT hZ (wAt hw 59 rfl))) (wAt hw 59 rfl) (wAt hw 58 rfl) (wAt hw 5 rfl) (wAt hw 60 rfl) (by decide) (rmE l Z a0 hw [] b5 b5 b7 t12 kb12 ([c0] : List Int32) 0 (1 : Int32) ((((([c0] : List Int32)).map (fun c => c.toInt8.toInt32))).map Value.int) b7 t12 kb12 ([c0] : List Int32) 0 (1 : Int32) ((((([c0] : List Int32)).map (fun c => c.toInt8.toInt32))).map Value.int) (((pp &&& (2147483647 : Int32)) % (65535 : Int32)) + (1 : Int32)) (((pp &&& (2147483647 : Int32)) % (65535 : Int32)) + (1 : Int32)) (1 : Int32) z T46.heap n0 Zs46 f63 f57 f58 f57 f58 f48 f49 f50 f51 hcd12 hbd12 (Nat.le_of_ble_eq_true rfl) f48 f49 f50 f51 hcd12 hbd12 (Nat.le_of_ble_eq_true rfl) f61 SC hz (bP_t ⟨rfl, rfl⟩).symm) e64 f63 (g := (mkF m 284 #[.val (.int aa), .val (.int bb), .val (.int pp), .val (.int qq), .val (.int fl), .val (.int (1 : Int32)), .val (.int (1 : Int32)), .val (.int c0), .val (.int c1), .val (.int d0), .val (.int d1), .val (.ref b1), .val (.ref b3), .val (.int (((pp &&& (2147483647 : Int32)) % (65535 : Int32)) + (1 : Int32))), .val (.int q2), .val (.ref b5), .val (.ref b21), .val (.int ex), .val (.ref rI)] [(.ref b5), (.ref b5)])) rfl (by rw [hml]; rfl) [(.ref b5)] [] 0 (lenOf pd_1 rfl) rfl rfl (by show 2 * 0 + _ ≤ _; exact Nat.le_of_eq rfl) (hb hby at_284) (by decide) (by decide) (by decide) (by decide) rfl rfl ?_
            intro T65 X65 e65
            show Done _ p e below s _ _ (T65.setTop (mkF m 287 #[.val (.int aa), .val (.int bb), .val (.int pp), .val (.int qq), .val (.int fl), .val (.int (1 : Int32)), .val (.int (1 : Int32)), .val (.int c0), .val (.int c1), .val (.int d0), .val (.int d1), .val (.ref b1), .val (.ref b3), .val (.int (((pp &&& (2147483647 : Int32)) % (65535 : Int32)) + (1 : Int32))), .val (.int q2), .val (.ref b5), .val (.ref b21), .val (.int ex), .val (.ref rI)] [(.int (1 : Int32))]))
            refine Done.step (fun _ => XS.ifNo X65.here hx rfl (hb hby at_287) rfl (XT.i0_eq_f (by decide))) ?_
            show Done _ p e below s _ _ (T65.setTop (mkF m 290 #[.val (.int aa), .val (.int bb), .val (.int pp), .val (.int qq), .val (.int fl), .val (.int (1 : Int32)), .val (.int (1 : Int32)), .val (.int c0), .val (.int c1), .val (.int d0), .val (.int d1), .val (.ref b1), .val (.ref b3), .val (.int (((pp &&& (2147483647 : Int32)) % (65535 : Int32)) + (1 : Int32))), .val (.int q2), .val (.ref b5), .val (.ref b21), .val (.int ex), .val (.ref rI)] []))
            refine Done.step (fun _ => XS.aload X65.here hx rfl (hb hby at_290) rfl rfl) ?_
            show Done _ p e below s _ _ (T65.setTop (mkF m 292 #[.val (.int aa), .val (.int bb), .val (.int pp), .val (.int qq), .val (.int fl), .val (.int (1 : Int32)), .val (.int (1 : Int32)), .val (.int c0), .val (.int c1), .val (.int d0), .val (.int d1), .val (.ref b1), .val (.ref b3), .val (.int (((pp &&& (2147483647 : Int32)) % (65535 : Int32)) + (1 : Int32))), .val (.int q2), .val (.ref b5), .val (.ref b21), .val (.int ex), .val (.ref rI)] [(.ref b5)]))
            refine Done.step (fun _ => XS.aconstNull X65.here hx rfl (hb hby at_292)) ?_
            show Done _ p e below s _ _ (T65.setTop (mkF m 293 #[.val (.int aa), .val (.int bb), .val (.int pp), .val (.int qq), .val (.int fl), .val (.int (1 : Int32)), .val (.int (1 : Int32)), .val (.int c0), .val (.int c1), .val (.int d0), .val (.int d1), .val (.ref b1), .val (.ref b3), .val (.int (((pp &&& (2147483647 : Int32)) % (65535 : Int32)) + (1 : Int32))), .val (.int q2), .val (.ref b5), .val (.ref b21), .val (.int ex), .val (.ref rI)] [.null, (.ref b5)]))
            refine Done.callVP X65 hx hZ (C := "com/example/minho/minho/core/Address") hown (wAt hw 56 rfl) (wAt hw 57 rfl) (notFace_of_selects (args := #[]) (mvT hZ (wAt hw 59 rfl))) (wAt hw 59 rfl) (wAt hw 58 rfl) (wAt hw 5 rfl) (wAt hw 60 rfl) (by decide) (rmN l Z a0 hw [] b5 T46.heap n0 Zs46) e65 f63 (g := (mkF m 293 #[.val (.int aa), .val (.int bb), .val (.int pp), .val (.int qq), .val (.int fl), .val (.int (1 : Int32)), .val (.int (1 : Int32)), .val (.int c0), .val (.int c1), .val (.int d0), .val (.int d1), .val (.ref b1), .val (.ref b3), .val (.int (((pp &&& (2147483647 : Int32)) % (65535 : Int32)) + (1 : Int32))), .val (.int q2), .val (.ref b5), .val (.ref b21), .val (.int ex), .val (.ref rI)] [.null, (.ref b5)])) rfl (by rw [hml]; rfl) [.null] [] 0 (lenOf pd_1 rfl) rfl rfl (by show 2 * 0 + _ ≤ _; exact Nat.le_of_eq rfl) (hb hby at_293) (by decide) (by decide) (by decide) (by decide) rfl rfl ?_
            intro T66 X66 e66
            show Done _ p e below s _ _ (T66.setTop (mkF m 296 #[.val (.int aa), .val (.int bb), .val (.int pp), .val (.int qq), .val (.int fl), .val (.int (1 : Int32)), .val (.int (1 : Int32)), .val (.int c0), .val (.int c1), .val (.int d0), .val (.int d1), .val (.ref b1), .val (.ref b3), .val (.int (((pp &&& (2147483647 : Int32)) % (65535 : Int32)) + (1 : Int32))), .val (.int q2), .val (.ref b5), .val (.ref b21), .val (.int ex), .val (.ref rI)] [(.int (0 : Int32))]))
            refine Done.step (fun _ => XS.ifNo X66.here hx rfl (hb hby at_296) rfl (XT.i0_ne_f rfl)) ?_
            show Done _ p e below s _ _ (T66.setTop (mkF m 299 #[.val (.int aa), .val (.int bb), .val (.int pp), .val (.int qq), .val (.int fl), .val (.int (1 : Int32)), .val (.int (1 : Int32)), .val (.int c0), .val (.int c1), .val (.int d0), .val (.int d1), .val (.ref b1), .val (.ref b3), .val (.int (((pp &&& (2147483647 : Int32)) % (65535 : Int32)) + (1 : Int32))), .val (.int q2), .val (.ref b5), .val (.ref b21), .val (.int ex), .val (.ref rI)] []))
            refine Done.step (fun _ => XS.aload X66.here hx rfl (hb hby at_299) rfl rfl) ?_
            show Done _ p e below s _ _ (T66.setTop (mkF m 301 #[.val (.int aa), .val (.int bb), .val (.int pp), .val (.int qq), .val (.int fl), .val (.int (1 : Int32)), .val (.int (1 : Int32)), .val (.int c0), .val (.int c1), .val (.int d0), .val (.int d1), .val (.ref b1), .val (.ref b3), .val (.int (((pp &&& (2147483647 : Int32)) % (65535 : Int32)) + (1 : Int32))), .val (.int q2), .val (.ref b5), .val (.ref b21), .val (.int ex), .val (.ref rI)] [(.ref b5)]))
            refine Done.step (fun _ => XS.aload X66.here hx rfl (hb hby at_301) rfl rfl) ?_
            show Done _ p e below s _ _ (T66.setTop (mkF m 303 #[.val (.int aa), .val (.int bb), .val (.int pp), .val (.int qq), .val (.int fl), .val (.int (1 : Int32)), .val (.int (1 : Int32)), .val (.int c0), .val (.int c1), .val (.int d0), .val (.int d1), .val (.ref b1), .val (.ref b3), .val (.int (((pp &&& (2147483647 : Int32)) % (65535 : Int32)) + (1 : Int32))), .val (.int q2), .val (.ref b5), .val (.ref b21), .val (.int ex), .val (.ref rI)] [(.ref rI), (.ref b5)]))
            refine Done.callVP X66 hx hZ (C := "com/example/minho/minho/core/Address") hown (wAt hw 56 rfl) (wAt hw 57 rfl) (notFace_of_selects (args := #[]) (mvT hZ (wAt hw 59 rfl))) (wAt hw 59 rfl) (wAt hw 58 rfl) (wAt hw 5 rfl) (wAt hw 60 rfl) (by decide) (rmI l Z a0 hw [] b5 rI T46.heap n0 Zs46 Er46) e66 f63 (g := (mkF m 303 #[.val (.int aa), .val (.int bb), .val (.int pp), .val (.int qq), .val (.int fl), .val (.int (1 : Int32)), .val (.int (1 : Int32)), .val (.int c0), .val (.int c1), .val (.int d0), .val (.int d1), .val (.ref b1), .val (.ref b3), .val (.int (((pp &&& (2147483647 : Int32)) % (65535 : Int32)) + (1 : Int32))), .val (.int q2), .val (.ref b5), .val (.ref b21), .val (.int ex), .val (.ref rI)] [(.ref rI), (.ref b5)])) rfl (by rw [hml]; rfl) [(.ref rI)] [] 0 (lenOf pd_1 rfl) rfl rfl (by show 2 * 0 + _ ≤ _; exact Nat.le_of_eq rfl) (hb hby at_303) (by decide) (by decide) (by decide) (by decide) rfl rfl ?_
            intro T67 X67 e67
            show Done _ p e below s _ _ (T67.setTop (mkF m 306 #[.val (.int aa), .val (.int bb), .val (.int pp), .val (.int qq), .val (.int fl), .val (.int (1 : Int32)), .val (.int (1 : Int32)), .val (.int c0), .val (.int c1), .val (.int d0), .val (.int d1), .val (.ref b1), .val (.ref b3), .val (.int (((pp &&& (2147483647 : Int32)) % (65535 : Int32)) + (1 : Int32))), .val (.int q2), .val (.ref b5), .val (.ref b21), .val (.int ex), .val (.ref rI)] [(.int (0 : Int32))]))
            refine Done.step (fun _ => XS.ifNo X67.here hx rfl (hb hby at_306) rfl (XT.i0_ne_f rfl)) ?_
            show Done _ p e below s _ _ (T67.setTop (mkF m 309 #[.val (.int aa), .val (.int bb), .val (.int pp), .val (.int qq), .val (.int fl), .val (.int (1 : Int32)), .val (.int (1 : Int32)), .val (.int c0), .val (.int c1), .val (.int d0), .val (.int d1), .val (.ref b1), .val (.ref b3), .val (.int (((pp &&& (2147483647 : Int32)) % (65535 : Int32)) + (1 : Int32))), .val (.int q2), .val (.ref b5), .val (.ref b21), .val (.int ex), .val (.ref rI)] []))
            refine Done.step (fun _ => XT.iconstV X67.here hx rfl (1 : Int32) (hb hby at_309) (by decide)) ?_
            show Done _ p e below s _ _ (T67.setTop (mkF m 310 #[.val (.int aa), .val (.int bb), .val (.int pp), .val (.int qq), .val (.int fl), .val (.int (1 : Int32)), .val (.int (1 : Int32)), .val (.int c0), .val (.int c1), .val (.int d0), .val (.int d1), .val (.ref b1), .val (.ref b3), .val (.int (((pp &&& (2147483647 : Int32)) % (65535 : Int32)) + (1 : Int32))), .val (.int q2), .val (.ref b5), .val (.ref b21), .val (.int ex), .val (.ref rI)] [(.int (1 : Int32))]))
            refine Done.step (fun _ => XS.goto X67.here hx rfl (pc0 := 310) (pc' := 314) rfl (hb hby at_310) (by decide) (by decide)) ?_
            show Done _ p e below s _ _ (T67.setTop (mkF m 314 #[.val (.int aa), .val (.int bb), .val (.int pp), .val (.int qq), .val (.int fl), .val (.int (1 : Int32)), .val (.int (1 : Int32)), .val (.int c0), .val (.int c1), .val (.int d0), .val (.int d1), .val (.ref b1), .val (.ref b3), .val (.int (((pp &&& (2147483647 : Int32)) % (65535 : Int32)) + (1 : Int32))), .val (.int q2), .val (.ref b5), .val (.ref b21), .val (.int ex), .val (.ref rI)] [(.int (1 : Int32))]))
            exact Done.retN (leavesF X67 hlk (by decide) (by decide)) X67 hx (t := .boolean) hret (by simp) (hb hby at_314) ⟨rfl, N46⟩
          refine Done.step (fun _ => XS.iload X45.here hx rfl (hb hby at_208) rfl) ?_
          show Done _ p e below s _ _ (T45.setTop (mkF m 210 #[.val (.int aa), .val (.int bb), .val (.int pp), .val (.int qq), .val (.int fl), .val (.int (1 : Int32)), .val (.int (1 : Int32)), .val (.int c0), .val (.int c1), .val (.int d0), .val (.int d1), .val (.ref b1), .val (.ref b3), .val (.int (((pp &&& (2147483647 : Int32)) % (65535 : Int32)) + (1 : Int32))), .val (.int q2), .val (.ref b5), .val (.ref b21), .unset, .unset] [(.int (1 : Int32))]))
          refine Done.step (fun _ => XS.iload X45.here hx rfl (hb hby at_210) rfl) ?_
          show Done _ p e below s _ _ (T45.setTop (mkF m 212 #[.val (.int aa), .val (.int bb), .val (.int pp), .val (.int qq), .val (.int fl), .val (.int (1 : Int32)), .val (.int (1 : Int32)), .val (.int c0), .val (.int c1), .val (.int d0), .val (.int d1), .val (.ref b1), .val (.ref b3), .val (.int (((pp &&& (2147483647 : Int32)) % (65535 : Int32)) + (1 : Int32))), .val (.int q2), .val (.ref b5), .val (.ref b21), .unset, .unset] [(.int (1 : Int32)), (.int (1 : Int32))]))
          refine Done.step (fun _ => XS.icmpNo X45.here hx rfl (hb hby at_212) rfl (XT.ii_ne_f rfl)) ?_
          show Done _ p e below s _ _ (T45.setTop (mkF m 215 #[.val (.int aa), .val (.int bb), .val (.int pp), .val (.int qq), .val (.int fl), .val (.int (1 : Int32)), .val (.int (1 : Int32)), .val (.int c0), .val (.int c1), .val (.int d0), .val (.int d1), .val (.ref b1), .val (.ref b3), .val (.int (((pp &&& (2147483647 : Int32)) % (65535 : Int32)) + (1 : Int32))), .val (.int q2), .val (.ref b5), .val (.ref b21), .unset, .unset] []))
          refine Done.step (fun _ => XS.iload X45.here hx rfl (hb hby at_215) rfl) ?_
          show Done _ p e below s _ _ (T45.setTop (mkF m 217 #[.val (.int aa), .val (.int bb), .val (.int pp), .val (.int qq), .val (.int fl), .val (.int (1 : Int32)), .val (.int (1 : Int32)), .val (.int c0), .val (.int c1), .val (.int d0), .val (.int d1), .val (.ref b1), .val (.ref b3), .val (.int (((pp &&& (2147483647 : Int32)) % (65535 : Int32)) + (1 : Int32))), .val (.int q2), .val (.ref b5), .val (.ref b21), .unset, .unset] [(.int c0)]))
          refine Done.step (fun _ => XS.iload X45.here hx rfl (hb hby at_217) rfl) ?_
          show Done _ p e below s _ _ (T45.setTop (mkF m 219 #[.val (.int aa), .val (.int bb), .val (.int pp), .val (.int qq), .val (.int fl), .val (.int (1 : Int32)), .val (.int (1 : Int32)), .val (.int c0), .val (.int c1), .val (.int d0), .val (.int d1), .val (.ref b1), .val (.ref b3), .val (.int (((pp &&& (2147483647 : Int32)) % (65535 : Int32)) + (1 : Int32))), .val (.int q2), .val (.ref b5), .val (.ref b21), .unset, .unset] [(.int d0), (.int c0)]))
          by_cases hc68 : c0 = d0
          · refine Done.step (fun _ => XS.icmpNo X45.here hx rfl (hb hby at_219) rfl (XT.ii_ne_f hc68)) ?_
            show Done _ p e below s _ _ (T45.setTop (mkF m 222 #[.val (.int aa), .val (.int bb), .val (.int pp), .val (.int qq), .val (.int fl), .val (.int (1 : Int32)), .val (.int (1 : Int32)), .val (.int c0), .val (.int c1), .val (.int d0), .val (.int d1), .val (.ref b1), .val (.ref b3), .val (.int (((pp &&& (2147483647 : Int32)) % (65535 : Int32)) + (1 : Int32))), .val (.int q2), .val (.ref b5), .val (.ref b21), .unset, .unset] []))
            refine Done.step (fun _ => XS.iload X45.here hx rfl (hb hby at_222) rfl) ?_
            show Done _ p e below s _ _ (T45.setTop (mkF m 224 #[.val (.int aa), .val (.int bb), .val (.int pp), .val (.int qq), .val (.int fl), .val (.int (1 : Int32)), .val (.int (1 : Int32)), .val (.int c0), .val (.int c1), .val (.int d0), .val (.int d1), .val (.ref b1), .val (.ref b3), .val (.int (((pp &&& (2147483647 : Int32)) % (65535 : Int32)) + (1 : Int32))), .val (.int q2), .val (.ref b5), .val (.ref b21), .unset, .unset] [(.int (1 : Int32))]))
            refine Done.step (fun _ => XT.iconstV X45.here hx rfl (1 : Int32) (hb hby at_224) (by decide)) ?_
            show Done _ p e below s _ _ (T45.setTop (mkF m 225 #[.val (.int aa), .val (.int bb), .val (.int pp), .val (.int qq), .val (.int fl), .val (.int (1 : Int32)), .val (.int (1 : Int32)), .val (.int c0), .val (.int c1), .val (.int d0), .val (.int d1), .val (.ref b1), .val (.ref b3), .val (.int (((pp &&& (2147483647 : Int32)) % (65535 : Int32)) + (1 : Int32))), .val (.int q2), .val (.ref b5), .val (.ref b21), .unset, .unset] [(.int (1 : Int32)), (.int (1 : Int32))]))
            refine Done.step (fun _ => XS.icmpYes X45.here hx rfl (pc0 := 225) (pc' := 235) rfl (hb hby at_225) rfl (XT.ii_eq_t rfl) (by decide) (by decide)) ?_
            show Done _ p e below s _ _ (T45.setTop (mkF m 235 #[.val (.int aa), .val (.int bb), .val (.int pp), .val (.int qq), .val (.int fl), .val (.int (1 : Int32)), .val (.int (1 : Int32)), .val (.int c0), .val (.int c1), .val (.int d0), .val (.int d1), .val (.ref b1), .val (.ref b3), .val (.int (((pp &&& (2147483647 : Int32)) % (65535 : Int32)) + (1 : Int32))), .val (.int q2), .val (.ref b5), .val (.ref b21), .unset, .unset] []))
            refine Done.step (fun _ => XS.iload X45.here hx rfl (hb hby at_235) rfl) ?_
            show Done _ p e below s _ _ (T45.setTop (mkF m 237 #[.val (.int aa), .val (.int bb), .val (.int pp), .val (.int qq), .val (.int fl), .val (.int (1 : Int32)), .val (.int (1 : Int32)), .val (.int c0), .val (.int c1), .val (.int d0), .val (.int d1), .val (.ref b1), .val (.ref b3), .val (.int (((pp &&& (2147483647 : Int32)) % (65535 : Int32)) + (1 : Int32))), .val (.int q2), .val (.ref b5), .val (.ref b21), .unset, .unset] [(.int (((pp &&& (2147483647 : Int32)) % (65535 : Int32)) + (1 : Int32)))]))
            refine Done.step (fun _ => XS.iload X45.here hx rfl (hb hby at_237) rfl) ?_
            show Done _ p e below s _ _ (T45.setTop (mkF m 239 #[.val (.int aa), .val (.int bb), .val (.int pp), .val (.int qq), .val (.int fl), .val (.int (1 : Int32)), .val (.int (1 : Int32)), .val (.int c0), .val (.int c1), .val (.int d0), .val (.int d1), .val (.ref b1), .val (.ref b3), .val (.int (((pp &&& (2147483647 : Int32)) % (65535 : Int32)) + (1 : Int32))), .val (.int q2), .val (.ref b5), .val (.ref b21), .unset, .unset] [(.int q2), (.int (((pp &&& (2147483647 : Int32)) % (65535 : Int32)) + (1 : Int32)))]))
            by_cases hc69 : (((pp &&& (2147483647 : Int32)) % (65535 : Int32)) + (1 : Int32)) = q2
            · refine Done.step (fun _ => XS.icmpNo X45.here hx rfl (hb hby at_239) rfl (XT.ii_ne_f hc69)) ?_
              show Done _ p e below s _ _ (T45.setTop (mkF m 242 #[.val (.int aa), .val (.int bb), .val (.int pp), .val (.int qq), .val (.int fl), .val (.int (1 : Int32)), .val (.int (1 : Int32)), .val (.int c0), .val (.int c1), .val (.int d0), .val (.int d1), .val (.ref b1), .val (.ref b3), .val (.int (((pp &&& (2147483647 : Int32)) % (65535 : Int32)) + (1 : Int32))), .val (.int q2), .val (.ref b5), .val (.ref b21), .unset, .unset] []))
              refine Done.step (fun _ => XT.iconstV X45.here hx rfl (1 : Int32) (hb hby at_242) (by decide)) ?_
              show Done _ p e below s _ _ (T45.setTop (mkF m 243 #[.val (.int aa), .val (.int bb), .val (.int pp), .val (.int qq), .val (.int fl), .val (.int (1 : Int32)), .val (.int (1 : Int32)), .val (.int c0), .val (.int c1), .val (.int d0), .val (.int d1), .val (.ref b1), .val (.ref b3), .val (.int (((pp &&& (2147483647 : Int32)) % (65535 : Int32)) + (1 : Int32))), .val (.int q2), .val (.ref b5), .val (.ref b21), .unset, .unset] [(.int (1 : Int32))]))
              refine Done.step (fun _ => XS.goto X45.here hx rfl (pc0 := 243) (pc' := 247) rfl (hb hby at_243) (by decide) (by decide)) ?_
              show Done _ p e below s _ _ (T45.setTop (mkF m 247 #[.val (.int aa), .val (.int bb), .val (.int pp), .val (.int qq), .val (.int fl), .val (.int (1 : Int32)), .val (.int (1 : Int32)), .val (.int c0), .val (.int c1), .val (.int d0), .val (.int d1), .val (.ref b1), .val (.ref b3), .val (.int (((pp &&& (2147483647 : Int32)) % (65535 : Int32)) + (1 : Int32))), .val (.int q2), .val (.ref b5), .val (.ref b21), .unset, .unset] [(.int (1 : Int32))]))
              refine Done.step (fun _ => XS.istore X45.here hx rfl (hb hby at_247) rfl (l' := #[.val (.int aa), .val (.int bb), .val (.int pp), .val (.int qq), .val (.int fl), .val (.int (1 : Int32)), .val (.int (1 : Int32)), .val (.int c0), .val (.int c1), .val (.int d0), .val (.int d1), .val (.ref b1), .val (.ref b3), .val (.int (((pp &&& (2147483647 : Int32)) % (65535 : Int32)) + (1 : Int32))), .val (.int q2), .val (.ref b5), .val (.ref b21), .val (.int (1 : Int32)), .unset]) rfl) ?_
              show Done _ p e below s _ _ (T45.setTop (mkF m 249 #[.val (.int aa), .val (.int bb), .val (.int pp), .val (.int qq), .val (.int fl), .val (.int (1 : Int32)), .val (.int (1 : Int32)), .val (.int c0), .val (.int c1), .val (.int d0), .val (.int d1), .val (.ref b1), .val (.ref b3), .val (.int (((pp &&& (2147483647 : Int32)) % (65535 : Int32)) + (1 : Int32))), .val (.int q2), .val (.ref b5), .val (.ref b21), .val (.int (1 : Int32)), .unset] []))
              exact K249 (1 : Int32) (bP_t ⟨((own_l1 c0 d0).mpr hc68), hc69.symm⟩).symm
            · refine Done.step (fun _ => XS.icmpYes X45.here hx rfl (pc0 := 239) (pc' := 246) rfl (hb hby at_239) rfl (XT.ii_ne_t hc69) (by decide) (by decide)) ?_
              show Done _ p e below s _ _ (T45.setTop (mkF m 246 #[.val (.int aa), .val (.int bb), .val (.int pp), .val (.int qq), .val (.int fl), .val (.int (1 : Int32)), .val (.int (1 : Int32)), .val (.int c0), .val (.int c1), .val (.int d0), .val (.int d1), .val (.ref b1), .val (.ref b3), .val (.int (((pp &&& (2147483647 : Int32)) % (65535 : Int32)) + (1 : Int32))), .val (.int q2), .val (.ref b5), .val (.ref b21), .unset, .unset] []))
              refine Done.step (fun _ => XT.iconstV X45.here hx rfl (0 : Int32) (hb hby at_246) (by decide)) ?_
              show Done _ p e below s _ _ (T45.setTop (mkF m 247 #[.val (.int aa), .val (.int bb), .val (.int pp), .val (.int qq), .val (.int fl), .val (.int (1 : Int32)), .val (.int (1 : Int32)), .val (.int c0), .val (.int c1), .val (.int d0), .val (.int d1), .val (.ref b1), .val (.ref b3), .val (.int (((pp &&& (2147483647 : Int32)) % (65535 : Int32)) + (1 : Int32))), .val (.int q2), .val (.ref b5), .val (.ref b21), .unset, .unset] [(.int (0 : Int32))]))
              refine Done.step (fun _ => XS.istore X45.here hx rfl (hb hby at_247) rfl (l' := #[.val (.int aa), .val (.int bb), .val (.int pp), .val (.int qq), .val (.int fl), .val (.int (1 : Int32)), .val (.int (1 : Int32)), .val (.int c0), .val (.int c1), .val (.int d0), .val (.int d1), .val (.ref b1), .val (.ref b3), .val (.int (((pp &&& (2147483647 : Int32)) % (65535 : Int32)) + (1 : Int32))), .val (.int q2), .val (.ref b5), .val (.ref b21), .val (.int (0 : Int32)), .unset]) rfl) ?_
              show Done _ p e below s _ _ (T45.setTop (mkF m 249 #[.val (.int aa), .val (.int bb), .val (.int pp), .val (.int qq), .val (.int fl), .val (.int (1 : Int32)), .val (.int (1 : Int32)), .val (.int c0), .val (.int c1), .val (.int d0), .val (.int d1), .val (.ref b1), .val (.ref b3), .val (.int (((pp &&& (2147483647 : Int32)) % (65535 : Int32)) + (1 : Int32))), .val (.int q2), .val (.ref b5), .val (.ref b21), .val (.int (0 : Int32)), .unset] []))
              exact K249 (0 : Int32) (bP_f (fun q => hc69 q.2.symm)).symm
          · refine Done.step (fun _ => XS.icmpYes X45.here hx rfl (pc0 := 219) (pc' := 246) rfl (hb hby at_219) rfl (XT.ii_ne_t hc68) (by decide) (by decide)) ?_
            show Done _ p e below s _ _ (T45.setTop (mkF m 246 #[.val (.int aa), .val (.int bb), .val (.int pp), .val (.int qq), .val (.int fl), .val (.int (1 : Int32)), .val (.int (1 : Int32)), .val (.int c0), .val (.int c1), .val (.int d0), .val (.int d1), .val (.ref b1), .val (.ref b3), .val (.int (((pp &&& (2147483647 : Int32)) % (65535 : Int32)) + (1 : Int32))), .val (.int q2), .val (.ref b5), .val (.ref b21), .unset, .unset] []))
            refine Done.step (fun _ => XT.iconstV X45.here hx rfl (0 : Int32) (hb hby at_246) (by decide)) ?_
            show Done _ p e below s _ _ (T45.setTop (mkF m 247 #[.val (.int aa), .val (.int bb), .val (.int pp), .val (.int qq), .val (.int fl), .val (.int (1 : Int32)), .val (.int (1 : Int32)), .val (.int c0), .val (.int c1), .val (.int d0), .val (.int d1), .val (.ref b1), .val (.ref b3), .val (.int (((pp &&& (2147483647 : Int32)) % (65535 : Int32)) + (1 : Int32))), .val (.int q2), .val (.ref b5), .val (.ref b21), .unset, .unset] [(.int (0 : Int32))]))
            refine Done.step (fun _ => XS.istore X45.here hx rfl (hb hby at_247) rfl (l' := #[.val (.int aa), .val (.int bb), .val (.int pp), .val (.int qq), .val (.int fl), .val (.int (1 : Int32)), .val (.int (1 : Int32)), .val (.int c0), .val (.int c1), .val (.int d0), .val (.int d1), .val (.ref b1), .val (.ref b3), .val (.int (((pp &&& (2147483647 : Int32)) % (65535 : Int32)) + (1 : Int32))), .val (.int q2), .val (.ref b5), .val (.ref b21), .val (.int (0 : Int32)), .unset]) rfl) ?_
            show Done _ p e below s _ _ (T45.setTop (mkF m 249 #[.val (.int aa), .val (.int bb), .val (.int pp), .val (.int qq), .val (.int fl), .val (.int (1 : Int32)), .val (.int (1 : Int32)), .val (.int c0), .val (.int c1), .val (.int d0), .val (.int d1), .val (.ref b1), .val (.ref b3), .val (.int (((pp &&& (2147483647 : Int32)) % (65535 : Int32)) + (1 : Int32))), .val (.int q2), .val (.ref b5), .val (.ref b21), .val (.int (0 : Int32)), .unset] []))
            exact K249 (0 : Int32) (bP_f (fun q => hc68 ((own_l1 c0 d0).mp q.1))).symm
        refine Done.step (fun _ => XS.iload X4.here hx rfl (hb hby at_143) rfl) ?_
        show Done _ p e below s _ _ (T4.setTop (mkF m 145 #[.val (.int aa), .val (.int bb), .val (.int pp), .val (.int qq), .val (.int fl), .val (.int (1 : Int32)), .val (.int (1 : Int32)), .val (.int c0), .val (.int c1), .val (.int d0), .val (.int d1), .val (.ref b1), .val (.ref b3), .val (.int (((pp &&& (2147483647 : Int32)) % (65535 : Int32)) + (1 : Int32))), .unset, .unset, .unset, .unset, .unset] [(.int fl)]))
        refine Done.step (fun _ => XT.iconstV X4.here hx rfl (4 : Int32) (hb hby at_145) (by decide)) ?_
        show Done _ p e below s _ _ (T4.setTop (mkF m 146 #[.val (.int aa), .val (.int bb), .val (.int pp), .val (.int qq), .val (.int fl), .val (.int (1 : Int32)), .val (.int (1 : Int32)), .val (.int c0), .val (.int c1), .val (.int d0), .val (.int d1), .val (.ref b1), .val (.ref b3), .val (.int (((pp &&& (2147483647 : Int32)) % (65535 : Int32)) + (1 : Int32))), .unset, .unset, .unset, .unset, .unset] [(.int (4 : Int32)), (.int fl)]))
        refine Done.step (fun _ => XT.iushr X4.here hx rfl (hb hby at_146) rfl) ?_
        show Done _ p e below s _ _ (T4.setTop (mkF m 147 #[.val (.int aa), .val (.int bb), .val (.int pp), .val (.int qq), .val (.int fl), .val (.int (1 : Int32)), .val (.int (1 : Int32)), .val (.int c0), .val (.int c1), .val (.int d0), .val (.int d1), .val (.ref b1), .val (.ref b3), .val (.int (((pp &&& (2147483647 : Int32)) % (65535 : Int32)) + (1 : Int32))), .unset, .unset, .unset, .unset, .unset] [(.int ((fl.toUInt32 >>> ((4 : Int32) &&& 31).toUInt32).toInt32))]))
        refine Done.step (fun _ => XT.iconstV X4.here hx rfl (1 : Int32) (hb hby at_147) (by decide)) ?_
        show Done _ p e below s _ _ (T4.setTop (mkF m 148 #[.val (.int aa), .val (.int bb), .val (.int pp), .val (.int qq), .val (.int fl), .val (.int (1 : Int32)), .val (.int (1 : Int32)), .val (.int c0), .val (.int c1), .val (.int d0), .val (.int d1), .val (.ref b1), .val (.ref b3), .val (.int (((pp &&& (2147483647 : Int32)) % (65535 : Int32)) + (1 : Int32))), .unset, .unset, .unset, .unset, .unset] [(.int (1 : Int32)), (.int ((fl.toUInt32 >>> ((4 : Int32) &&& 31).toUInt32).toInt32))]))
        refine Done.step (fun _ => XS.iand X4.here hx rfl (hb hby at_148) rfl) ?_
        show Done _ p e below s _ _ (T4.setTop (mkF m 149 #[.val (.int aa), .val (.int bb), .val (.int pp), .val (.int qq), .val (.int fl), .val (.int (1 : Int32)), .val (.int (1 : Int32)), .val (.int c0), .val (.int c1), .val (.int d0), .val (.int d1), .val (.ref b1), .val (.ref b3), .val (.int (((pp &&& (2147483647 : Int32)) % (65535 : Int32)) + (1 : Int32))), .unset, .unset, .unset, .unset, .unset] [(.int (((fl.toUInt32 >>> ((4 : Int32) &&& 31).toUInt32).toInt32) &&& (1 : Int32)))]))
        by_cases hc70 : (((fl.toUInt32 >>> ((4 : Int32) &&& 31).toUInt32).toInt32) &&& (1 : Int32)) = (0 : Int32)
        · refine Done.step (fun _ => XS.ifYes X4.here hx rfl (pc0 := 149) (pc' := 157) rfl (hb hby at_149) rfl (XT.i0_eq_t hc70) (by decide) (by decide)) ?_
          show Done _ p e below s _ _ (T4.setTop (mkF m 157 #[.val (.int aa), .val (.int bb), .val (.int pp), .val (.int qq), .val (.int fl), .val (.int (1 : Int32)), .val (.int (1 : Int32)), .val (.int c0), .val (.int c1), .val (.int d0), .val (.int d1), .val (.ref b1), .val (.ref b3), .val (.int (((pp &&& (2147483647 : Int32)) % (65535 : Int32)) + (1 : Int32))), .unset, .unset, .unset, .unset, .unset] []))
          refine Done.step (fun _ => XS.iloadN X4.here hx rfl (hb hby at_157) rfl) ?_
          show Done _ p e below s _ _ (T4.setTop (mkF m 158 #[.val (.int aa), .val (.int bb), .val (.int pp), .val (.int qq), .val (.int fl), .val (.int (1 : Int32)), .val (.int (1 : Int32)), .val (.int c0), .val (.int c1), .val (.int d0), .val (.int d1), .val (.ref b1), .val (.ref b3), .val (.int (((pp &&& (2147483647 : Int32)) % (65535 : Int32)) + (1 : Int32))), .unset, .unset, .unset, .unset, .unset] [(.int qq)]))
          refine Done.step (fun _ => Stand.ldcI X4 hx hown (mvT hZ (wAt hw 1 rfl)) (g := (mkF m 158 #[.val (.int aa), .val (.int bb), .val (.int pp), .val (.int qq), .val (.int fl), .val (.int (1 : Int32)), .val (.int (1 : Int32)), .val (.int c0), .val (.int c1), .val (.int d0), .val (.int d1), .val (.ref b1), .val (.ref b3), .val (.int (((pp &&& (2147483647 : Int32)) % (65535 : Int32)) + (1 : Int32))), .unset, .unset, .unset, .unset, .unset] [(.int qq)])) rfl (hb hby at_158)) ?_
          show Done _ p e below s _ _ (T4.setTop (mkF m 160 #[.val (.int aa), .val (.int bb), .val (.int pp), .val (.int qq), .val (.int fl), .val (.int (1 : Int32)), .val (.int (1 : Int32)), .val (.int c0), .val (.int c1), .val (.int d0), .val (.int d1), .val (.ref b1), .val (.ref b3), .val (.int (((pp &&& (2147483647 : Int32)) % (65535 : Int32)) + (1 : Int32))), .unset, .unset, .unset, .unset, .unset] [(.int (2147483647 : Int32)), (.int qq)]))
          refine Done.step (fun _ => XS.iand X4.here hx rfl (hb hby at_160) rfl) ?_
          show Done _ p e below s _ _ (T4.setTop (mkF m 161 #[.val (.int aa), .val (.int bb), .val (.int pp), .val (.int qq), .val (.int fl), .val (.int (1 : Int32)), .val (.int (1 : Int32)), .val (.int c0), .val (.int c1), .val (.int d0), .val (.int d1), .val (.ref b1), .val (.ref b3), .val (.int (((pp &&& (2147483647 : Int32)) % (65535 : Int32)) + (1 : Int32))), .unset, .unset, .unset, .unset, .unset] [(.int (qq &&& (2147483647 : Int32)))]))
          refine Done.step (fun _ => Stand.ldcI X4 hx hown (mvT hZ (wAt hw 2 rfl)) (g := (mkF m 161 #[.val (.int aa), .val (.int bb), .val (.int pp), .val (.int qq), .val (.int fl), .val (.int (1 : Int32)), .val (.int (1 : Int32)), .val (.int c0), .val (.int c1), .val (.int d0), .val (.int d1), .val (.ref b1), .val (.ref b3), .val (.int (((pp &&& (2147483647 : Int32)) % (65535 : Int32)) + (1 : Int32))), .unset, .unset, .unset, .unset, .unset] [(.int (qq &&& (2147483647 : Int32)))])) rfl (hb hby at_161)) ?_
          show Done _ p e below s _ _ (T4.setTop (mkF m 163 #[.val (.int aa), .val (.int bb), .val (.int pp), .val (.int qq), .val (.int fl), .val (.int (1 : Int32)), .val (.int (1 : Int32)), .val (.int c0), .val (.int c1), .val (.int d0), .val (.int d1), .val (.ref b1), .val (.ref b3), .val (.int (((pp &&& (2147483647 : Int32)) % (65535 : Int32)) + (1 : Int32))), .unset, .unset, .unset, .unset, .unset] [(.int (65535 : Int32)), (.int (qq &&& (2147483647 : Int32)))]))
          refine Done.step (fun _ => iremM X4 hx rfl (hb hby at_163) rfl (by decide)) ?_
          show Done _ p e below s _ _ (T4.setTop (mkF m 164 #[.val (.int aa), .val (.int bb), .val (.int pp), .val (.int qq), .val (.int fl), .val (.int (1 : Int32)), .val (.int (1 : Int32)), .val (.int c0), .val (.int c1), .val (.int d0), .val (.int d1), .val (.ref b1), .val (.ref b3), .val (.int (((pp &&& (2147483647 : Int32)) % (65535 : Int32)) + (1 : Int32))), .unset, .unset, .unset, .unset, .unset] [(.int ((qq &&& (2147483647 : Int32)) % (65535 : Int32)))]))
          refine Done.step (fun _ => XT.iconstV X4.here hx rfl (1 : Int32) (hb hby at_164) (by decide)) ?_
          show Done _ p e below s _ _ (T4.setTop (mkF m 165 #[.val (.int aa), .val (.int bb), .val (.int pp), .val (.int qq), .val (.int fl), .val (.int (1 : Int32)), .val (.int (1 : Int32)), .val (.int c0), .val (.int c1), .val (.int d0), .val (.int d1), .val (.ref b1), .val (.ref b3), .val (.int (((pp &&& (2147483647 : Int32)) % (65535 : Int32)) + (1 : Int32))), .unset, .unset, .unset, .unset, .unset] [(.int (1 : Int32)), (.int ((qq &&& (2147483647 : Int32)) % (65535 : Int32)))]))
          refine Done.step (fun _ => XS.iadd X4.here hx rfl (hb hby at_165) rfl) ?_
          show Done _ p e below s _ _ (T4.setTop (mkF m 166 #[.val (.int aa), .val (.int bb), .val (.int pp), .val (.int qq), .val (.int fl), .val (.int (1 : Int32)), .val (.int (1 : Int32)), .val (.int c0), .val (.int c1), .val (.int d0), .val (.int d1), .val (.ref b1), .val (.ref b3), .val (.int (((pp &&& (2147483647 : Int32)) % (65535 : Int32)) + (1 : Int32))), .unset, .unset, .unset, .unset, .unset] [(.int (((qq &&& (2147483647 : Int32)) % (65535 : Int32)) + (1 : Int32)))]))
          refine Done.step (fun _ => XS.istore X4.here hx rfl (hb hby at_166) rfl (l' := #[.val (.int aa), .val (.int bb), .val (.int pp), .val (.int qq), .val (.int fl), .val (.int (1 : Int32)), .val (.int (1 : Int32)), .val (.int c0), .val (.int c1), .val (.int d0), .val (.int d1), .val (.ref b1), .val (.ref b3), .val (.int (((pp &&& (2147483647 : Int32)) % (65535 : Int32)) + (1 : Int32))), .val (.int (((qq &&& (2147483647 : Int32)) % (65535 : Int32)) + (1 : Int32))), .unset, .unset, .unset, .unset]) rfl) ?_
          show Done _ p e below s _ _ (T4.setTop (mkF m 168 #[.val (.int aa), .val (.int bb), .val (.int pp), .val (.int qq), .val (.int fl), .val (.int (1 : Int32)), .val (.int (1 : Int32)), .val (.int c0), .val (.int c1), .val (.int d0), .val (.int d1), .val (.ref b1), .val (.ref b3), .val (.int (((pp &&& (2147483647 : Int32)) % (65535 : Int32)) + (1 : Int32))), .val (.int (((qq &&& (2147483647 : Int32)) % (65535 : Int32)) + (1 : Int32))), .unset, .unset, .unset, .unset] []))
          exact K168 (((qq &&& (2147483647 : Int32)) % (65535 : Int32)) + (1 : Int32)) (own_port _).1 (own_port _).2
        · refine Done.step (fun _ => XS.ifNo X4.here hx rfl (hb hby at_149) rfl (XT.i0_eq_f hc70)) ?_
          show Done _ p e below s _ _ (T4.setTop (mkF m 152 #[.val (.int aa), .val (.int bb), .val (.int pp), .val (.int qq), .val (.int fl), .val (.int (1 : Int32)), .val (.int (1 : Int32)), .val (.int c0), .val (.int c1), .val (.int d0), .val (.int d1), .val (.ref b1), .val (.ref b3), .val (.int (((pp &&& (2147483647 : Int32)) % (65535 : Int32)) + (1 : Int32))), .unset, .unset, .unset, .unset, .unset] []))
          refine Done.step (fun _ => XS.iload X4.here hx rfl (hb hby at_152) rfl) ?_
          show Done _ p e below s _ _ (T4.setTop (mkF m 154 #[.val (.int aa), .val (.int bb), .val (.int pp), .val (.int qq), .val (.int fl), .val (.int (1 : Int32)), .val (.int (1 : Int32)), .val (.int c0), .val (.int c1), .val (.int d0), .val (.int d1), .val (.ref b1), .val (.ref b3), .val (.int (((pp &&& (2147483647 : Int32)) % (65535 : Int32)) + (1 : Int32))), .unset, .unset, .unset, .unset, .unset] [(.int (((pp &&& (2147483647 : Int32)) % (65535 : Int32)) + (1 : Int32)))]))
          refine Done.step (fun _ => XS.goto X4.here hx rfl (pc0 := 154) (pc' := 166) rfl (hb hby at_154) (by decide) (by decide)) ?_
          show Done _ p e below s _ _ (T4.setTop (mkF m 166 #[.val (.int aa), .val (.int bb), .val (.int pp), .val (.int qq), .val (.int fl), .val (.int (1 : Int32)), .val (.int (1 : Int32)), .val (.int c0), .val (.int c1), .val (.int d0), .val (.int d1), .val (.ref b1), .val (.ref b3), .val (.int (((pp &&& (2147483647 : Int32)) % (65535 : Int32)) + (1 : Int32))), .unset, .unset, .unset, .unset, .unset] [(.int (((pp &&& (2147483647 : Int32)) % (65535 : Int32)) + (1 : Int32)))]))
          refine Done.step (fun _ => XS.istore X4.here hx rfl (hb hby at_166) rfl (l' := #[.val (.int aa), .val (.int bb), .val (.int pp), .val (.int qq), .val (.int fl), .val (.int (1 : Int32)), .val (.int (1 : Int32)), .val (.int c0), .val (.int c1), .val (.int d0), .val (.int d1), .val (.ref b1), .val (.ref b3), .val (.int (((pp &&& (2147483647 : Int32)) % (65535 : Int32)) + (1 : Int32))), .val (.int (((pp &&& (2147483647 : Int32)) % (65535 : Int32)) + (1 : Int32))), .unset, .unset, .unset, .unset]) rfl) ?_
          show Done _ p e below s _ _ (T4.setTop (mkF m 168 #[.val (.int aa), .val (.int bb), .val (.int pp), .val (.int qq), .val (.int fl), .val (.int (1 : Int32)), .val (.int (1 : Int32)), .val (.int c0), .val (.int c1), .val (.int d0), .val (.int d1), .val (.ref b1), .val (.ref b3), .val (.int (((pp &&& (2147483647 : Int32)) % (65535 : Int32)) + (1 : Int32))), .val (.int (((pp &&& (2147483647 : Int32)) % (65535 : Int32)) + (1 : Int32))), .unset, .unset, .unset, .unset] []))
          exact K168 (((pp &&& (2147483647 : Int32)) % (65535 : Int32)) + (1 : Int32)) (own_port _).1 (own_port _).2
      refine Done.step (fun _ => XS.iload X0.here hx rfl (hb hby at_37) rfl) ?_
      show Done _ p e below s _ _ (T0.setTop (mkF m 39 #[.val (.int aa), .val (.int bb), .val (.int pp), .val (.int qq), .val (.int fl), .val (.int (1 : Int32)), .val (.int (1 : Int32)), .val (.int ((aa &&& (255 : Int32)).toUInt32.toUInt16.toUInt32.toInt32)), .val (.int ((((aa.toUInt32 >>> ((8 : Int32) &&& 31).toUInt32).toInt32) &&& (255 : Int32)).toUInt32.toUInt16.toUInt32.toInt32)), .unset, .unset, .unset, .unset, .unset, .unset, .unset, .unset, .unset, .unset] [(.int fl)]))
      refine Done.step (fun _ => XT.iconstV X0.here hx rfl (2 : Int32) (hb hby at_39) (by decide)) ?_
      show Done _ p e below s _ _ (T0.setTop (mkF m 40 #[.val (.int aa), .val (.int bb), .val (.int pp), .val (.int qq), .val (.int fl), .val (.int (1 : Int32)), .val (.int (1 : Int32)), .val (.int ((aa &&& (255 : Int32)).toUInt32.toUInt16.toUInt32.toInt32)), .val (.int ((((aa.toUInt32 >>> ((8 : Int32) &&& 31).toUInt32).toInt32) &&& (255 : Int32)).toUInt32.toUInt16.toUInt32.toInt32)), .unset, .unset, .unset, .unset, .unset, .unset, .unset, .unset, .unset, .unset] [(.int (2 : Int32)), (.int fl)]))
      refine Done.step (fun _ => XT.iushr X0.here hx rfl (hb hby at_40) rfl) ?_
      show Done _ p e below s _ _ (T0.setTop (mkF m 41 #[.val (.int aa), .val (.int bb), .val (.int pp), .val (.int qq), .val (.int fl), .val (.int (1 : Int32)), .val (.int (1 : Int32)), .val (.int ((aa &&& (255 : Int32)).toUInt32.toUInt16.toUInt32.toInt32)), .val (.int ((((aa.toUInt32 >>> ((8 : Int32) &&& 31).toUInt32).toInt32) &&& (255 : Int32)).toUInt32.toUInt16.toUInt32.toInt32)), .unset, .unset, .unset, .unset, .unset, .unset, .unset, .unset, .unset, .unset] [(.int ((fl.toUInt32 >>> ((2 : Int32) &&& 31).toUInt32).toInt32))]))
      refine Done.step (fun _ => XT.iconstV X0.here hx rfl (1 : Int32) (hb hby at_41) (by decide)) ?_
      show Done _ p e below s _ _ (T0.setTop (mkF m 42 #[.val (.int aa), .val (.int bb), .val (.int pp), .val (.int qq), .val (.int fl), .val (.int (1 : Int32)), .val (.int (1 : Int32)), .val (.int ((aa &&& (255 : Int32)).toUInt32.toUInt16.toUInt32.toInt32)), .val (.int ((((aa.toUInt32 >>> ((8 : Int32) &&& 31).toUInt32).toInt32) &&& (255 : Int32)).toUInt32.toUInt16.toUInt32.toInt32)), .unset, .unset, .unset, .unset, .unset, .unset, .unset, .unset, .unset, .unset] [(.int (1 : Int32)), (.int ((fl.toUInt32 >>> ((2 : Int32) &&& 31).toUInt32).toInt32))]))
      refine Done.step (fun _ => XS.iand X0.here hx rfl (hb hby at_42) rfl) ?_
      show Done _ p e below s _ _ (T0.setTop (mkF m 43 #[.val (.int aa), .val (.int bb), .val (.int pp), .val (.int qq), .val (.int fl), .val (.int (1 : Int32)), .val (.int (1 : Int32)), .val (.int ((aa &&& (255 : Int32)).toUInt32.toUInt16.toUInt32.toInt32)), .val (.int ((((aa.toUInt32 >>> ((8 : Int32) &&& 31).toUInt32).toInt32) &&& (255 : Int32)).toUInt32.toUInt16.toUInt32.toInt32)), .unset, .unset, .unset, .unset, .unset, .unset, .unset, .unset, .unset, .unset] [(.int (((fl.toUInt32 >>> ((2 : Int32) &&& 31).toUInt32).toInt32) &&& (1 : Int32)))]))
      by_cases hc71 : (((fl.toUInt32 >>> ((2 : Int32) &&& 31).toUInt32).toInt32) &&& (1 : Int32)) = (0 : Int32)
      · refine Done.step (fun _ => XS.ifYes X0.here hx rfl (pc0 := 43) (pc' := 51) rfl (hb hby at_43) rfl (XT.i0_eq_t hc71) (by decide) (by decide)) ?_
        show Done _ p e below s _ _ (T0.setTop (mkF m 51 #[.val (.int aa), .val (.int bb), .val (.int pp), .val (.int qq), .val (.int fl), .val (.int (1 : Int32)), .val (.int (1 : Int32)), .val (.int ((aa &&& (255 : Int32)).toUInt32.toUInt16.toUInt32.toInt32)), .val (.int ((((aa.toUInt32 >>> ((8 : Int32) &&& 31).toUInt32).toInt32) &&& (255 : Int32)).toUInt32.toUInt16.toUInt32.toInt32)), .unset, .unset, .unset, .unset, .unset, .unset, .unset, .unset, .unset, .unset] []))
        refine Done.step (fun _ => XS.iloadN X0.here hx rfl (hb hby at_51) rfl) ?_
        show Done _ p e below s _ _ (T0.setTop (mkF m 52 #[.val (.int aa), .val (.int bb), .val (.int pp), .val (.int qq), .val (.int fl), .val (.int (1 : Int32)), .val (.int (1 : Int32)), .val (.int ((aa &&& (255 : Int32)).toUInt32.toUInt16.toUInt32.toInt32)), .val (.int ((((aa.toUInt32 >>> ((8 : Int32) &&& 31).toUInt32).toInt32) &&& (255 : Int32)).toUInt32.toUInt16.toUInt32.toInt32)), .unset, .unset, .unset, .unset, .unset, .unset, .unset, .unset, .unset, .unset] [(.int bb)]))
        refine Done.step (fun _ => XT.sipushV X0.here hx rfl (255 : Int32) (hb hby at_52) (by decide)) ?_
        show Done _ p e below s _ _ (T0.setTop (mkF m 55 #[.val (.int aa), .val (.int bb), .val (.int pp), .val (.int qq), .val (.int fl), .val (.int (1 : Int32)), .val (.int (1 : Int32)), .val (.int ((aa &&& (255 : Int32)).toUInt32.toUInt16.toUInt32.toInt32)), .val (.int ((((aa.toUInt32 >>> ((8 : Int32) &&& 31).toUInt32).toInt32) &&& (255 : Int32)).toUInt32.toUInt16.toUInt32.toInt32)), .unset, .unset, .unset, .unset, .unset, .unset, .unset, .unset, .unset, .unset] [(.int (255 : Int32)), (.int bb)]))
        refine Done.step (fun _ => XS.iand X0.here hx rfl (hb hby at_55) rfl) ?_
        show Done _ p e below s _ _ (T0.setTop (mkF m 56 #[.val (.int aa), .val (.int bb), .val (.int pp), .val (.int qq), .val (.int fl), .val (.int (1 : Int32)), .val (.int (1 : Int32)), .val (.int ((aa &&& (255 : Int32)).toUInt32.toUInt16.toUInt32.toInt32)), .val (.int ((((aa.toUInt32 >>> ((8 : Int32) &&& 31).toUInt32).toInt32) &&& (255 : Int32)).toUInt32.toUInt16.toUInt32.toInt32)), .unset, .unset, .unset, .unset, .unset, .unset, .unset, .unset, .unset, .unset] [(.int (bb &&& (255 : Int32)))]))
        refine Done.step (fun _ => XT.i2c X0.here hx rfl (hb hby at_56) rfl) ?_
        show Done _ p e below s _ _ (T0.setTop (mkF m 57 #[.val (.int aa), .val (.int bb), .val (.int pp), .val (.int qq), .val (.int fl), .val (.int (1 : Int32)), .val (.int (1 : Int32)), .val (.int ((aa &&& (255 : Int32)).toUInt32.toUInt16.toUInt32.toInt32)), .val (.int ((((aa.toUInt32 >>> ((8 : Int32) &&& 31).toUInt32).toInt32) &&& (255 : Int32)).toUInt32.toUInt16.toUInt32.toInt32)), .unset, .unset, .unset, .unset, .unset, .unset, .unset, .unset, .unset, .unset] [(.int ((bb &&& (255 : Int32)).toUInt32.toUInt16.toUInt32.toInt32))]))
        refine Done.step (fun _ => XS.istore X0.here hx rfl (hb hby at_57) rfl (l' := #[.val (.int aa), .val (.int bb), .val (.int pp), .val (.int qq), .val (.int fl), .val (.int (1 : Int32)), .val (.int (1 : Int32)), .val (.int ((aa &&& (255 : Int32)).toUInt32.toUInt16.toUInt32.toInt32)), .val (.int ((((aa.toUInt32 >>> ((8 : Int32) &&& 31).toUInt32).toInt32) &&& (255 : Int32)).toUInt32.toUInt16.toUInt32.toInt32)), .val (.int ((bb &&& (255 : Int32)).toUInt32.toUInt16.toUInt32.toInt32)), .unset, .unset, .unset, .unset, .unset, .unset, .unset, .unset, .unset]) rfl) ?_
        show Done _ p e below s _ _ (T0.setTop (mkF m 59 #[.val (.int aa), .val (.int bb), .val (.int pp), .val (.int qq), .val (.int fl), .val (.int (1 : Int32)), .val (.int (1 : Int32)), .val (.int ((aa &&& (255 : Int32)).toUInt32.toUInt16.toUInt32.toInt32)), .val (.int ((((aa.toUInt32 >>> ((8 : Int32) &&& 31).toUInt32).toInt32) &&& (255 : Int32)).toUInt32.toUInt16.toUInt32.toInt32)), .val (.int ((bb &&& (255 : Int32)).toUInt32.toUInt16.toUInt32.toInt32)), .unset, .unset, .unset, .unset, .unset, .unset, .unset, .unset, .unset] []))
        refine Done.step (fun _ => XS.iload X0.here hx rfl (hb hby at_59) rfl) ?_
        show Done _ p e below s _ _ (T0.setTop (mkF m 61 #[.val (.int aa), .val (.int bb), .val (.int pp), .val (.int qq), .val (.int fl), .val (.int (1 : Int32)), .val (.int (1 : Int32)), .val (.int ((aa &&& (255 : Int32)).toUInt32.toUInt16.toUInt32.toInt32)), .val (.int ((((aa.toUInt32 >>> ((8 : Int32) &&& 31).toUInt32).toInt32) &&& (255 : Int32)).toUInt32.toUInt16.toUInt32.toInt32)), .val (.int ((bb &&& (255 : Int32)).toUInt32.toUInt16.toUInt32.toInt32)), .unset, .unset, .unset, .unset, .unset, .unset, .unset, .unset, .unset] [(.int fl)]))
        refine Done.step (fun _ => XT.iconstV X0.here hx rfl (3 : Int32) (hb hby at_61) (by decide)) ?_
        show Done _ p e below s _ _ (T0.setTop (mkF m 62 #[.val (.int aa), .val (.int bb), .val (.int pp), .val (.int qq), .val (.int fl), .val (.int (1 : Int32)), .val (.int (1 : Int32)), .val (.int ((aa &&& (255 : Int32)).toUInt32.toUInt16.toUInt32.toInt32)), .val (.int ((((aa.toUInt32 >>> ((8 : Int32) &&& 31).toUInt32).toInt32) &&& (255 : Int32)).toUInt32.toUInt16.toUInt32.toInt32)), .val (.int ((bb &&& (255 : Int32)).toUInt32.toUInt16.toUInt32.toInt32)), .unset, .unset, .unset, .unset, .unset, .unset, .unset, .unset, .unset] [(.int (3 : Int32)), (.int fl)]))
        refine Done.step (fun _ => XT.iushr X0.here hx rfl (hb hby at_62) rfl) ?_
        show Done _ p e below s _ _ (T0.setTop (mkF m 63 #[.val (.int aa), .val (.int bb), .val (.int pp), .val (.int qq), .val (.int fl), .val (.int (1 : Int32)), .val (.int (1 : Int32)), .val (.int ((aa &&& (255 : Int32)).toUInt32.toUInt16.toUInt32.toInt32)), .val (.int ((((aa.toUInt32 >>> ((8 : Int32) &&& 31).toUInt32).toInt32) &&& (255 : Int32)).toUInt32.toUInt16.toUInt32.toInt32)), .val (.int ((bb &&& (255 : Int32)).toUInt32.toUInt16.toUInt32.toInt32)), .unset, .unset, .unset, .unset, .unset, .unset, .unset, .unset, .unset] [(.int ((fl.toUInt32 >>> ((3 : Int32) &&& 31).toUInt32).toInt32))]))
        refine Done.step (fun _ => XT.iconstV X0.here hx rfl (1 : Int32) (hb hby at_63) (by decide)) ?_
        show Done _ p e below s _ _ (T0.setTop (mkF m 64 #[.val (.int aa), .val (.int bb), .val (.int pp), .val (.int qq), .val (.int fl), .val (.int (1 : Int32)), .val (.int (1 : Int32)), .val (.int ((aa &&& (255 : Int32)).toUInt32.toUInt16.toUInt32.toInt32)), .val (.int ((((aa.toUInt32 >>> ((8 : Int32) &&& 31).toUInt32).toInt32) &&& (255 : Int32)).toUInt32.toUInt16.toUInt32.toInt32)), .val (.int ((bb &&& (255 : Int32)).toUInt32.toUInt16.toUInt32.toInt32)), .unset, .unset, .unset, .unset, .unset, .unset, .unset, .unset, .unset] [(.int (1 : Int32)), (.int ((fl.toUInt32 >>> ((3 : Int32) &&& 31).toUInt32).toInt32))]))
        refine Done.step (fun _ => XS.iand X0.here hx rfl (hb hby at_64) rfl) ?_
        show Done _ p e below s _ _ (T0.setTop (mkF m 65 #[.val (.int aa), .val (.int bb), .val (.int pp), .val (.int qq), .val (.int fl), .val (.int (1 : Int32)), .val (.int (1 : Int32)), .val (.int ((aa &&& (255 : Int32)).toUInt32.toUInt16.toUInt32.toInt32)), .val (.int ((((aa.toUInt32 >>> ((8 : Int32) &&& 31).toUInt32).toInt32) &&& (255 : Int32)).toUInt32.toUInt16.toUInt32.toInt32)), .val (.int ((bb &&& (255 : Int32)).toUInt32.toUInt16.toUInt32.toInt32)), .unset, .unset, .unset, .unset, .unset, .unset, .unset, .unset, .unset] [(.int (((fl.toUInt32 >>> ((3 : Int32) &&& 31).toUInt32).toInt32) &&& (1 : Int32)))]))
        by_cases hc72 : (((fl.toUInt32 >>> ((3 : Int32) &&& 31).toUInt32).toInt32) &&& (1 : Int32)) = (0 : Int32)
        · refine Done.step (fun _ => XS.ifYes X0.here hx rfl (pc0 := 65) (pc' := 73) rfl (hb hby at_65) rfl (XT.i0_eq_t hc72) (by decide) (by decide)) ?_
          show Done _ p e below s _ _ (T0.setTop (mkF m 73 #[.val (.int aa), .val (.int bb), .val (.int pp), .val (.int qq), .val (.int fl), .val (.int (1 : Int32)), .val (.int (1 : Int32)), .val (.int ((aa &&& (255 : Int32)).toUInt32.toUInt16.toUInt32.toInt32)), .val (.int ((((aa.toUInt32 >>> ((8 : Int32) &&& 31).toUInt32).toInt32) &&& (255 : Int32)).toUInt32.toUInt16.toUInt32.toInt32)), .val (.int ((bb &&& (255 : Int32)).toUInt32.toUInt16.toUInt32.toInt32)), .unset, .unset, .unset, .unset, .unset, .unset, .unset, .unset, .unset] []))
          refine Done.step (fun _ => XS.iloadN X0.here hx rfl (hb hby at_73) rfl) ?_
          show Done _ p e below s _ _ (T0.setTop (mkF m 74 #[.val (.int aa), .val (.int bb), .val (.int pp), .val (.int qq), .val (.int fl), .val (.int (1 : Int32)), .val (.int (1 : Int32)), .val (.int ((aa &&& (255 : Int32)).toUInt32.toUInt16.toUInt32.toInt32)), .val (.int ((((aa.toUInt32 >>> ((8 : Int32) &&& 31).toUInt32).toInt32) &&& (255 : Int32)).toUInt32.toUInt16.toUInt32.toInt32)), .val (.int ((bb &&& (255 : Int32)).toUInt32.toUInt16.toUInt32.toInt32)), .unset, .unset, .unset, .unset, .unset, .unset, .unset, .unset, .unset] [(.int bb)]))
          refine Done.step (fun _ => XT.bipushV X0.here hx rfl (8 : Int32) (hb hby at_74) (by decide)) ?_
          show Done _ p e below s _ _ (T0.setTop (mkF m 76 #[.val (.int aa), .val (.int bb), .val (.int pp), .val (.int qq), .val (.int fl), .val (.int (1 : Int32)), .val (.int (1 : Int32)), .val (.int ((aa &&& (255 : Int32)).toUInt32.toUInt16.toUInt32.toInt32)), .val (.int ((((aa.toUInt32 >>> ((8 : Int32) &&& 31).toUInt32).toInt32) &&& (255 : Int32)).toUInt32.toUInt16.toUInt32.toInt32)), .val (.int ((bb &&& (255 : Int32)).toUInt32.toUInt16.toUInt32.toInt32)), .unset, .unset, .unset, .unset, .unset, .unset, .unset, .unset, .unset] [(.int (8 : Int32)), (.int bb)]))
          refine Done.step (fun _ => XT.iushr X0.here hx rfl (hb hby at_76) rfl) ?_
          show Done _ p e below s _ _ (T0.setTop (mkF m 77 #[.val (.int aa), .val (.int bb), .val (.int pp), .val (.int qq), .val (.int fl), .val (.int (1 : Int32)), .val (.int (1 : Int32)), .val (.int ((aa &&& (255 : Int32)).toUInt32.toUInt16.toUInt32.toInt32)), .val (.int ((((aa.toUInt32 >>> ((8 : Int32) &&& 31).toUInt32).toInt32) &&& (255 : Int32)).toUInt32.toUInt16.toUInt32.toInt32)), .val (.int ((bb &&& (255 : Int32)).toUInt32.toUInt16.toUInt32.toInt32)), .unset, .unset, .unset, .unset, .unset, .unset, .unset, .unset, .unset] [(.int ((bb.toUInt32 >>> ((8 : Int32) &&& 31).toUInt32).toInt32))]))
          refine Done.step (fun _ => XT.sipushV X0.here hx rfl (255 : Int32) (hb hby at_77) (by decide)) ?_
          show Done _ p e below s _ _ (T0.setTop (mkF m 80 #[.val (.int aa), .val (.int bb), .val (.int pp), .val (.int qq), .val (.int fl), .val (.int (1 : Int32)), .val (.int (1 : Int32)), .val (.int ((aa &&& (255 : Int32)).toUInt32.toUInt16.toUInt32.toInt32)), .val (.int ((((aa.toUInt32 >>> ((8 : Int32) &&& 31).toUInt32).toInt32) &&& (255 : Int32)).toUInt32.toUInt16.toUInt32.toInt32)), .val (.int ((bb &&& (255 : Int32)).toUInt32.toUInt16.toUInt32.toInt32)), .unset, .unset, .unset, .unset, .unset, .unset, .unset, .unset, .unset] [(.int (255 : Int32)), (.int ((bb.toUInt32 >>> ((8 : Int32) &&& 31).toUInt32).toInt32))]))
          refine Done.step (fun _ => XS.iand X0.here hx rfl (hb hby at_80) rfl) ?_
          show Done _ p e below s _ _ (T0.setTop (mkF m 81 #[.val (.int aa), .val (.int bb), .val (.int pp), .val (.int qq), .val (.int fl), .val (.int (1 : Int32)), .val (.int (1 : Int32)), .val (.int ((aa &&& (255 : Int32)).toUInt32.toUInt16.toUInt32.toInt32)), .val (.int ((((aa.toUInt32 >>> ((8 : Int32) &&& 31).toUInt32).toInt32) &&& (255 : Int32)).toUInt32.toUInt16.toUInt32.toInt32)), .val (.int ((bb &&& (255 : Int32)).toUInt32.toUInt16.toUInt32.toInt32)), .unset, .unset, .unset, .unset, .unset, .unset, .unset, .unset, .unset] [(.int (((bb.toUInt32 >>> ((8 : Int32) &&& 31).toUInt32).toInt32) &&& (255 : Int32)))]))
          refine Done.step (fun _ => XT.i2c X0.here hx rfl (hb hby at_81) rfl) ?_
          show Done _ p e below s _ _ (T0.setTop (mkF m 82 #[.val (.int aa), .val (.int bb), .val (.int pp), .val (.int qq), .val (.int fl), .val (.int (1 : Int32)), .val (.int (1 : Int32)), .val (.int ((aa &&& (255 : Int32)).toUInt32.toUInt16.toUInt32.toInt32)), .val (.int ((((aa.toUInt32 >>> ((8 : Int32) &&& 31).toUInt32).toInt32) &&& (255 : Int32)).toUInt32.toUInt16.toUInt32.toInt32)), .val (.int ((bb &&& (255 : Int32)).toUInt32.toUInt16.toUInt32.toInt32)), .unset, .unset, .unset, .unset, .unset, .unset, .unset, .unset, .unset] [(.int ((((bb.toUInt32 >>> ((8 : Int32) &&& 31).toUInt32).toInt32) &&& (255 : Int32)).toUInt32.toUInt16.toUInt32.toInt32))]))
          refine Done.step (fun _ => XS.istore X0.here hx rfl (hb hby at_82) rfl (l' := #[.val (.int aa), .val (.int bb), .val (.int pp), .val (.int qq), .val (.int fl), .val (.int (1 : Int32)), .val (.int (1 : Int32)), .val (.int ((aa &&& (255 : Int32)).toUInt32.toUInt16.toUInt32.toInt32)), .val (.int ((((aa.toUInt32 >>> ((8 : Int32) &&& 31).toUInt32).toInt32) &&& (255 : Int32)).toUInt32.toUInt16.toUInt32.toInt32)), .val (.int ((bb &&& (255 : Int32)).toUInt32.toUInt16.toUInt32.toInt32)), .val (.int ((((bb.toUInt32 >>> ((8 : Int32) &&& 31).toUInt32).toInt32) &&& (255 : Int32)).toUInt32.toUInt16.toUInt32.toInt32)), .unset, .unset, .unset, .unset, .unset, .unset, .unset, .unset]) rfl) ?_
          show Done _ p e below s _ _ (T0.setTop (mkF m 84 #[.val (.int aa), .val (.int bb), .val (.int pp), .val (.int qq), .val (.int fl), .val (.int (1 : Int32)), .val (.int (1 : Int32)), .val (.int ((aa &&& (255 : Int32)).toUInt32.toUInt16.toUInt32.toInt32)), .val (.int ((((aa.toUInt32 >>> ((8 : Int32) &&& 31).toUInt32).toInt32) &&& (255 : Int32)).toUInt32.toUInt16.toUInt32.toInt32)), .val (.int ((bb &&& (255 : Int32)).toUInt32.toUInt16.toUInt32.toInt32)), .val (.int ((((bb.toUInt32 >>> ((8 : Int32) &&& 31).toUInt32).toInt32) &&& (255 : Int32)).toUInt32.toUInt16.toUInt32.toInt32)), .unset, .unset, .unset, .unset, .unset, .unset, .unset, .unset] []))
          exact K84 ((aa &&& (255 : Int32)).toUInt32.toUInt16.toUInt32.toInt32) ((((aa.toUInt32 >>> ((8 : Int32) &&& 31).toUInt32).toInt32) &&& (255 : Int32)).toUInt32.toUInt16.toUInt32.toInt32) ((bb &&& (255 : Int32)).toUInt32.toUInt16.toUInt32.toInt32) ((((bb.toUInt32 >>> ((8 : Int32) &&& 31).toUInt32).toInt32) &&& (255 : Int32)).toUInt32.toUInt16.toUInt32.toInt32) (own_ch _) (own_ch _) (own_ch _) (own_ch _)
        · refine Done.step (fun _ => XS.ifNo X0.here hx rfl (hb hby at_65) rfl (XT.i0_eq_f hc72)) ?_
          show Done _ p e below s _ _ (T0.setTop (mkF m 68 #[.val (.int aa), .val (.int bb), .val (.int pp), .val (.int qq), .val (.int fl), .val (.int (1 : Int32)), .val (.int (1 : Int32)), .val (.int ((aa &&& (255 : Int32)).toUInt32.toUInt16.toUInt32.toInt32)), .val (.int ((((aa.toUInt32 >>> ((8 : Int32) &&& 31).toUInt32).toInt32) &&& (255 : Int32)).toUInt32.toUInt16.toUInt32.toInt32)), .val (.int ((bb &&& (255 : Int32)).toUInt32.toUInt16.toUInt32.toInt32)), .unset, .unset, .unset, .unset, .unset, .unset, .unset, .unset, .unset] []))
          refine Done.step (fun _ => XS.iload X0.here hx rfl (hb hby at_68) rfl) ?_
          show Done _ p e below s _ _ (T0.setTop (mkF m 70 #[.val (.int aa), .val (.int bb), .val (.int pp), .val (.int qq), .val (.int fl), .val (.int (1 : Int32)), .val (.int (1 : Int32)), .val (.int ((aa &&& (255 : Int32)).toUInt32.toUInt16.toUInt32.toInt32)), .val (.int ((((aa.toUInt32 >>> ((8 : Int32) &&& 31).toUInt32).toInt32) &&& (255 : Int32)).toUInt32.toUInt16.toUInt32.toInt32)), .val (.int ((bb &&& (255 : Int32)).toUInt32.toUInt16.toUInt32.toInt32)), .unset, .unset, .unset, .unset, .unset, .unset, .unset, .unset, .unset] [(.int ((((aa.toUInt32 >>> ((8 : Int32) &&& 31).toUInt32).toInt32) &&& (255 : Int32)).toUInt32.toUInt16.toUInt32.toInt32))]))
          refine Done.step (fun _ => XS.goto X0.here hx rfl (pc0 := 70) (pc' := 82) rfl (hb hby at_70) (by decide) (by decide)) ?_
          show Done _ p e below s _ _ (T0.setTop (mkF m 82 #[.val (.int aa), .val (.int bb), .val (.int pp), .val (.int qq), .val (.int fl), .val (.int (1 : Int32)), .val (.int (1 : Int32)), .val (.int ((aa &&& (255 : Int32)).toUInt32.toUInt16.toUInt32.toInt32)), .val (.int ((((aa.toUInt32 >>> ((8 : Int32) &&& 31).toUInt32).toInt32) &&& (255 : Int32)).toUInt32.toUInt16.toUInt32.toInt32)), .val (.int ((bb &&& (255 : Int32)).toUInt32.toUInt16.toUInt32.toInt32)), .unset, .unset, .unset, .unset, .unset, .unset, .unset, .unset, .unset] [(.int ((((aa.toUInt32 >>> ((8 : Int32) &&& 31).toUInt32).toInt32) &&& (255 : Int32)).toUInt32.toUInt16.toUInt32.toInt32))]))
          refine Done.step (fun _ => XS.istore X0.here hx rfl (hb hby at_82) rfl (l' := #[.val (.int aa), .val (.int bb), .val (.int pp), .val (.int qq), .val (.int fl), .val (.int (1 : Int32)), .val (.int (1 : Int32)), .val (.int ((aa &&& (255 : Int32)).toUInt32.toUInt16.toUInt32.toInt32)), .val (.int ((((aa.toUInt32 >>> ((8 : Int32) &&& 31).toUInt32).toInt32) &&& (255 : Int32)).toUInt32.toUInt16.toUInt32.toInt32)), .val (.int ((bb &&& (255 : Int32)).toUInt32.toUInt16.toUInt32.toInt32)), .val (.int ((((aa.toUInt32 >>> ((8 : Int32) &&& 31).toUInt32).toInt32) &&& (255 : Int32)).toUInt32.toUInt16.toUInt32.toInt32)), .unset, .unset, .unset, .unset, .unset, .unset, .unset, .unset]) rfl) ?_
          show Done _ p e below s _ _ (T0.setTop (mkF m 84 #[.val (.int aa), .val (.int bb), .val (.int pp), .val (.int qq), .val (.int fl), .val (.int (1 : Int32)), .val (.int (1 : Int32)), .val (.int ((aa &&& (255 : Int32)).toUInt32.toUInt16.toUInt32.toInt32)), .val (.int ((((aa.toUInt32 >>> ((8 : Int32) &&& 31).toUInt32).toInt32) &&& (255 : Int32)).toUInt32.toUInt16.toUInt32.toInt32)), .val (.int ((bb &&& (255 : Int32)).toUInt32.toUInt16.toUInt32.toInt32)), .val (.int ((((aa.toUInt32 >>> ((8 : Int32) &&& 31).toUInt32).toInt32) &&& (255 : Int32)).toUInt32.toUInt16.toUInt32.toInt32)), .unset, .unset, .unset, .unset, .unset, .unset, .unset, .unset] []))
          exact K84 ((aa &&& (255 : Int32)).toUInt32.toUInt16.toUInt32.toInt32) ((((aa.toUInt32 >>> ((8 : Int32) &&& 31).toUInt32).toInt32) &&& (255 : Int32)).toUInt32.toUInt16.toUInt32.toInt32) ((bb &&& (255 : Int32)).toUInt32.toUInt16.toUInt32.toInt32) ((((aa.toUInt32 >>> ((8 : Int32) &&& 31).toUInt32).toInt32) &&& (255 : Int32)).toUInt32.toUInt16.toUInt32.toInt32) (own_ch _) (own_ch _) (own_ch _) (own_ch _)
      · refine Done.step (fun _ => XS.ifNo X0.here hx rfl (hb hby at_43) rfl (XT.i0_eq_f hc71)) ?_
        show Done _ p e below s _ _ (T0.setTop (mkF m 46 #[.val (.int aa), .val (.int bb), .val (.int pp), .val (.int qq), .val (.int fl), .val (.int (1 : Int32)), .val (.int (1 : Int32)), .val (.int ((aa &&& (255 : Int32)).toUInt32.toUInt16.toUInt32.toInt32)), .val (.int ((((aa.toUInt32 >>> ((8 : Int32) &&& 31).toUInt32).toInt32) &&& (255 : Int32)).toUInt32.toUInt16.toUInt32.toInt32)), .unset, .unset, .unset, .unset, .unset, .unset, .unset, .unset, .unset, .unset] []))
        refine Done.step (fun _ => XS.iload X0.here hx rfl (hb hby at_46) rfl) ?_
        show Done _ p e below s _ _ (T0.setTop (mkF m 48 #[.val (.int aa), .val (.int bb), .val (.int pp), .val (.int qq), .val (.int fl), .val (.int (1 : Int32)), .val (.int (1 : Int32)), .val (.int ((aa &&& (255 : Int32)).toUInt32.toUInt16.toUInt32.toInt32)), .val (.int ((((aa.toUInt32 >>> ((8 : Int32) &&& 31).toUInt32).toInt32) &&& (255 : Int32)).toUInt32.toUInt16.toUInt32.toInt32)), .unset, .unset, .unset, .unset, .unset, .unset, .unset, .unset, .unset, .unset] [(.int ((aa &&& (255 : Int32)).toUInt32.toUInt16.toUInt32.toInt32))]))
        refine Done.step (fun _ => XS.goto X0.here hx rfl (pc0 := 48) (pc' := 57) rfl (hb hby at_48) (by decide) (by decide)) ?_
        show Done _ p e below s _ _ (T0.setTop (mkF m 57 #[.val (.int aa), .val (.int bb), .val (.int pp), .val (.int qq), .val (.int fl), .val (.int (1 : Int32)), .val (.int (1 : Int32)), .val (.int ((aa &&& (255 : Int32)).toUInt32.toUInt16.toUInt32.toInt32)), .val (.int ((((aa.toUInt32 >>> ((8 : Int32) &&& 31).toUInt32).toInt32) &&& (255 : Int32)).toUInt32.toUInt16.toUInt32.toInt32)), .unset, .unset, .unset, .unset, .unset, .unset, .unset, .unset, .unset, .unset] [(.int ((aa &&& (255 : Int32)).toUInt32.toUInt16.toUInt32.toInt32))]))
        refine Done.step (fun _ => XS.istore X0.here hx rfl (hb hby at_57) rfl (l' := #[.val (.int aa), .val (.int bb), .val (.int pp), .val (.int qq), .val (.int fl), .val (.int (1 : Int32)), .val (.int (1 : Int32)), .val (.int ((aa &&& (255 : Int32)).toUInt32.toUInt16.toUInt32.toInt32)), .val (.int ((((aa.toUInt32 >>> ((8 : Int32) &&& 31).toUInt32).toInt32) &&& (255 : Int32)).toUInt32.toUInt16.toUInt32.toInt32)), .val (.int ((aa &&& (255 : Int32)).toUInt32.toUInt16.toUInt32.toInt32)), .unset, .unset, .unset, .unset, .unset, .unset, .unset, .unset, .unset]) rfl) ?_
        show Done _ p e below s _ _ (T0.setTop (mkF m 59 #[.val (.int aa), .val (.int bb), .val (.int pp), .val (.int qq), .val (.int fl), .val (.int (1 : Int32)), .val (.int (1 : Int32)), .val (.int ((aa &&& (255 : Int32)).toUInt32.toUInt16.toUInt32.toInt32)), .val (.int ((((aa.toUInt32 >>> ((8 : Int32) &&& 31).toUInt32).toInt32) &&& (255 : Int32)).toUInt32.toUInt16.toUInt32.toInt32)), .val (.int ((aa &&& (255 : Int32)).toUInt32.toUInt16.toUInt32.toInt32)), .unset, .unset, .unset, .unset, .unset, .unset, .unset, .unset, .unset] []))
        refine Done.step (fun _ => XS.iload X0.here hx rfl (hb hby at_59) rfl) ?_
        show Done _ p e below s _ _ (T0.setTop (mkF m 61 #[.val (.int aa), .val (.int bb), .val (.int pp), .val (.int qq), .val (.int fl), .val (.int (1 : Int32)), .val (.int (1 : Int32)), .val (.int ((aa &&& (255 : Int32)).toUInt32.toUInt16.toUInt32.toInt32)), .val (.int ((((aa.toUInt32 >>> ((8 : Int32) &&& 31).toUInt32).toInt32) &&& (255 : Int32)).toUInt32.toUInt16.toUInt32.toInt32)), .val (.int ((aa &&& (255 : Int32)).toUInt32.toUInt16.toUInt32.toInt32)), .unset, .unset, .unset, .unset, .unset, .unset, .unset, .unset, .unset] [(.int fl)]))
        refine Done.step (fun _ => XT.iconstV X0.here hx rfl (3 : Int32) (hb hby at_61) (by decide)) ?_
        show Done _ p e below s _ _ (T0.setTop (mkF m 62 #[.val (.int aa), .val (.int bb), .val (.int pp), .val (.int qq), .val (.int fl), .val (.int (1 : Int32)), .val (.int (1 : Int32)), .val (.int ((aa &&& (255 : Int32)).toUInt32.toUInt16.toUInt32.toInt32)), .val (.int ((((aa.toUInt32 >>> ((8 : Int32) &&& 31).toUInt32).toInt32) &&& (255 : Int32)).toUInt32.toUInt16.toUInt32.toInt32)), .val (.int ((aa &&& (255 : Int32)).toUInt32.toUInt16.toUInt32.toInt32)), .unset, .unset, .unset, .unset, .unset, .unset, .unset, .unset, .unset] [(.int (3 : Int32)), (.int fl)]))
        refine Done.step (fun _ => XT.iushr X0.here hx rfl (hb hby at_62) rfl) ?_
        show Done _ p e below s _ _ (T0.setTop (mkF m 63 #[.val (.int aa), .val (.int bb), .val (.int pp), .val (.int qq), .val (.int fl), .val (.int (1 : Int32)), .val (.int (1 : Int32)), .val (.int ((aa &&& (255 : Int32)).toUInt32.toUInt16.toUInt32.toInt32)), .val (.int ((((aa.toUInt32 >>> ((8 : Int32) &&& 31).toUInt32).toInt32) &&& (255 : Int32)).toUInt32.toUInt16.toUInt32.toInt32)), .val (.int ((aa &&& (255 : Int32)).toUInt32.toUInt16.toUInt32.toInt32)), .unset, .unset, .unset, .unset, .unset, .unset, .unset, .unset, .unset] [(.int ((fl.toUInt32 >>> ((3 : Int32) &&& 31).toUInt32).toInt32))]))
        refine Done.step (fun _ => XT.iconstV X0.here hx rfl (1 : Int32) (hb hby at_63) (by decide)) ?_
        show Done _ p e below s _ _ (T0.setTop (mkF m 64 #[.val (.int aa), .val (.int bb), .val (.int pp), .val (.int qq), .val (.int fl), .val (.int (1 : Int32)), .val (.int (1 : Int32)), .val (.int ((aa &&& (255 : Int32)).toUInt32.toUInt16.toUInt32.toInt32)), .val (.int ((((aa.toUInt32 >>> ((8 : Int32) &&& 31).toUInt32).toInt32) &&& (255 : Int32)).toUInt32.toUInt16.toUInt32.toInt32)), .val (.int ((aa &&& (255 : Int32)).toUInt32.toUInt16.toUInt32.toInt32)), .unset, .unset, .unset, .unset, .unset, .unset, .unset, .unset, .unset] [(.int (1 : Int32)), (.int ((fl.toUInt32 >>> ((3 : Int32) &&& 31).toUInt32).toInt32))]))
        refine Done.step (fun _ => XS.iand X0.here hx rfl (hb hby at_64) rfl) ?_
        show Done _ p e below s _ _ (T0.setTop (mkF m 65 #[.val (.int aa), .val (.int bb), .val (.int pp), .val (.int qq), .val (.int fl), .val (.int (1 : Int32)), .val (.int (1 : Int32)), .val (.int ((aa &&& (255 : Int32)).toUInt32.toUInt16.toUInt32.toInt32)), .val (.int ((((aa.toUInt32 >>> ((8 : Int32) &&& 31).toUInt32).toInt32) &&& (255 : Int32)).toUInt32.toUInt16.toUInt32.toInt32)), .val (.int ((aa &&& (255 : Int32)).toUInt32.toUInt16.toUInt32.toInt32)), .unset, .unset, .unset, .unset, .unset, .unset, .unset, .unset, .unset] [(.int (((fl.toUInt32 >>> ((3 : Int32) &&& 31).toUInt32).toInt32) &&& (1 : Int32)))]))
        by_cases hc73 : (((fl.toUInt32 >>> ((3 : Int32) &&& 31).toUInt32).toInt32) &&& (1 : Int32)) = (0 : Int32)
        · refine Done.step (fun _ => XS.ifYes X0.here hx rfl (pc0 := 65) (pc' := 73) rfl (hb hby at_65) rfl (XT.i0_eq_t hc73) (by decide) (by decide)) ?_
          show Done _ p e below s _ _ (T0.setTop (mkF m 73 #[.val (.int aa), .val (.int bb), .val (.int pp), .val (.int qq), .val (.int fl), .val (.int (1 : Int32)), .val (.int (1 : Int32)), .val (.int ((aa &&& (255 : Int32)).toUInt32.toUInt16.toUInt32.toInt32)), .val (.int ((((aa.toUInt32 >>> ((8 : Int32) &&& 31).toUInt32).toInt32) &&& (255 : Int32)).toUInt32.toUInt16.toUInt32.toInt32)), .val (.int ((aa &&& (255 : Int32)).toUInt32.toUInt16.toUInt32.toInt32)), .unset, .unset, .unset, .unset, .unset, .unset, .unset, .unset, .unset] []))
          refine Done.step (fun _ => XS.iloadN X0.here hx rfl (hb hby at_73) rfl) ?_
          show Done _ p e below s _ _ (T0.setTop (mkF m 74 #[.val (.int aa), .val (.int bb), .val (.int pp), .val (.int qq), .val (.int fl), .val (.int (1 : Int32)), .val (.int (1 : Int32)), .val (.int ((aa &&& (255 : Int32)).toUInt32.toUInt16.toUInt32.toInt32)), .val (.int ((((aa.toUInt32 >>> ((8 : Int32) &&& 31).toUInt32).toInt32) &&& (255 : Int32)).toUInt32.toUInt16.toUInt32.toInt32)), .val (.int ((aa &&& (255 : Int32)).toUInt32.toUInt16.toUInt32.toInt32)), .unset, .unset, .unset, .unset, .unset, .unset, .unset, .unset, .unset] [(.int bb)]))
          refine Done.step (fun _ => XT.bipushV X0.here hx rfl (8 : Int32) (hb hby at_74) (by decide)) ?_
          show Done _ p e below s _ _ (T0.setTop (mkF m 76 #[.val (.int aa), .val (.int bb), .val (.int pp), .val (.int qq), .val (.int fl), .val (.int (1 : Int32)), .val (.int (1 : Int32)), .val (.int ((aa &&& (255 : Int32)).toUInt32.toUInt16.toUInt32.toInt32)), .val (.int ((((aa.toUInt32 >>> ((8 : Int32) &&& 31).toUInt32).toInt32) &&& (255 : Int32)).toUInt32.toUInt16.toUInt32.toInt32)), .val (.int ((aa &&& (255 : Int32)).toUInt32.toUInt16.toUInt32.toInt32)), .unset, .unset, .unset, .unset, .unset, .unset, .unset, .unset, .unset] [(.int (8 : Int32)), (.int bb)]))
          refine Done.step (fun _ => XT.iushr X0.here hx rfl (hb hby at_76) rfl) ?_
          show Done _ p e below s _ _ (T0.setTop (mkF m 77 #[.val (.int aa), .val (.int bb), .val (.int pp), .val (.int qq), .val (.int fl), .val (.int (1 : Int32)), .val (.int (1 : Int32)), .val (.int ((aa &&& (255 : Int32)).toUInt32.toUInt16.toUInt32.toInt32)), .val (.int ((((aa.toUInt32 >>> ((8 : Int32) &&& 31).toUInt32).toInt32) &&& (255 : Int32)).toUInt32.toUInt16.toUInt32.toInt32)), .val (.int ((aa &&& (255 : Int32)).toUInt32.toUInt16.toUInt32.toInt32)), .unset, .unset, .unset, .unset, .unset, .unset, .unset, .unset, .unset] [(.int ((bb.toUInt32 >>> ((8 : Int32) &&& 31).toUInt32).toInt32))]))
          refine Done.step (fun _ => XT.sipushV X0.here hx rfl (255 : Int32) (hb hby at_77) (by decide)) ?_
          show Done _ p e below s _ _ (T0.setTop (mkF m 80 #[.val (.int aa), .val (.int bb), .val (.int pp), .val (.int qq), .val (.int fl), .val (.int (1 : Int32)), .val (.int (1 : Int32)), .val (.int ((aa &&& (255 : Int32)).toUInt32.toUInt16.toUInt32.toInt32)), .val (.int ((((aa.toUInt32 >>> ((8 : Int32) &&& 31).toUInt32).toInt32) &&& (255 : Int32)).toUInt32.toUInt16.toUInt32.toInt32)), .val (.int ((aa &&& (255 : Int32)).toUInt32.toUInt16.toUInt32.toInt32)), .unset, .unset, .unset, .unset, .unset, .unset, .unset, .unset, .unset] [(.int (255 : Int32)), (.int ((bb.toUInt32 >>> ((8 : Int32) &&& 31).toUInt32).toInt32))]))
          refine Done.step (fun _ => XS.iand X0.here hx rfl (hb hby at_80) rfl) ?_
          show Done _ p e below s _ _ (T0.setTop (mkF m 81 #[.val (.int aa), .val (.int bb), .val (.int pp), .val (.int qq), .val (.int fl), .val (.int (1 : Int32)), .val (.int (1 : Int32)), .val (.int ((aa &&& (255 : Int32)).toUInt32.toUInt16.toUInt32.toInt32)), .val (.int ((((aa.toUInt32 >>> ((8 : Int32) &&& 31).toUInt32).toInt32) &&& (255 : Int32)).toUInt32.toUInt16.toUInt32.toInt32)), .val (.int ((aa &&& (255 : Int32)).toUInt32.toUInt16.toUInt32.toInt32)), .unset, .unset, .unset, .unset, .unset, .unset, .unset, .unset, .unset] [(.int (((bb.toUInt32 >>> ((8 : Int32) &&& 31).toUInt32).toInt32) &&& (255 : Int32)))]))
          refine Done.step (fun _ => XT.i2c X0.here hx rfl (hb hby at_81) rfl) ?_
          show Done _ p e below s _ _ (T0.setTop (mkF m 82 #[.val (.int aa), .val (.int bb), .val (.int pp), .val (.int qq), .val (.int fl), .val (.int (1 : Int32)), .val (.int (1 : Int32)), .val (.int ((aa &&& (255 : Int32)).toUInt32.toUInt16.toUInt32.toInt32)), .val (.int ((((aa.toUInt32 >>> ((8 : Int32) &&& 31).toUInt32).toInt32) &&& (255 : Int32)).toUInt32.toUInt16.toUInt32.toInt32)), .val (.int ((aa &&& (255 : Int32)).toUInt32.toUInt16.toUInt32.toInt32)), .unset, .unset, .unset, .unset, .unset, .unset, .unset, .unset, .unset] [(.int ((((bb.toUInt32 >>> ((8 : Int32) &&& 31).toUInt32).toInt32) &&& (255 : Int32)).toUInt32.toUInt16.toUInt32.toInt32))]))
          refine Done.step (fun _ => XS.istore X0.here hx rfl (hb hby at_82) rfl (l' := #[.val (.int aa), .val (.int bb), .val (.int pp), .val (.int qq), .val (.int fl), .val (.int (1 : Int32)), .val (.int (1 : Int32)), .val (.int ((aa &&& (255 : Int32)).toUInt32.toUInt16.toUInt32.toInt32)), .val (.int ((((aa.toUInt32 >>> ((8 : Int32) &&& 31).toUInt32).toInt32) &&& (255 : Int32)).toUInt32.toUInt16.toUInt32.toInt32)), .val (.int ((aa &&& (255 : Int32)).toUInt32.toUInt16.toUInt32.toInt32)), .val (.int ((((bb.toUInt32 >>> ((8 : Int32) &&& 31).toUInt32).toInt32) &&& (255 : Int32)).toUInt32.toUInt16.toUInt32.toInt32)), .unset, .unset, .unset, .unset, .unset, .unset, .unset, .unset]) rfl) ?_
          show Done _ p e below s _ _ (T0.setTop (mkF m 84 #[.val (.int aa), .val (.int bb), .val (.int pp), .val (.int qq), .val (.int fl), .val (.int (1 : Int32)), .val (.int (1 : Int32)), .val (.int ((aa &&& (255 : Int32)).toUInt32.toUInt16.toUInt32.toInt32)), .val (.int ((((aa.toUInt32 >>> ((8 : Int32) &&& 31).toUInt32).toInt32) &&& (255 : Int32)).toUInt32.toUInt16.toUInt32.toInt32)), .val (.int ((aa &&& (255 : Int32)).toUInt32.toUInt16.toUInt32.toInt32)), .val (.int ((((bb.toUInt32 >>> ((8 : Int32) &&& 31).toUInt32).toInt32) &&& (255 : Int32)).toUInt32.toUInt16.toUInt32.toInt32)), .unset, .unset, .unset, .unset, .unset, .unset, .unset, .unset] []))
          exact K84 ((aa &&& (255 : Int32)).toUInt32.toUInt16.toUInt32.toInt32) ((((aa.toUInt32 >>> ((8 : Int32) &&& 31).toUInt32).toInt32) &&& (255 : Int32)).toUInt32.toUInt16.toUInt32.toInt32) ((aa &&& (255 : Int32)).toUInt32.toUInt16.toUInt32.toInt32) ((((bb.toUInt32 >>> ((8 : Int32) &&& 31).toUInt32).toInt32) &&& (255 : Int32)).toUInt32.toUInt16.toUInt32.toInt32) (own_ch _) (own_ch _) (own_ch _) (own_ch _)
        · refine Done.step (fun _ => XS.ifNo X0.here hx rfl (hb hby at_65) rfl (XT.i0_eq_f hc73)) ?_
          show Done _ p e below s _ _ (T0.setTop (mkF m 68 #[.val (.int aa), .val (.int bb), .val (.int pp), .val (.int qq), .val (.int fl), .val (.int (1 : Int32)), .val (.int (1 : Int32)), .val (.int ((aa &&& (255 : Int32)).toUInt32.toUInt16.toUInt32.toInt32)), .val (.int ((((aa.toUInt32 >>> ((8 : Int32) &&& 31).toUInt32).toInt32) &&& (255 : Int32)).toUInt32.toUInt16.toUInt32.toInt32)), .val (.int ((aa &&& (255 : Int32)).toUInt32.toUInt16.toUInt32.toInt32)), .unset, .unset, .unset, .unset, .unset, .unset, .unset, .unset, .unset] []))
          refine Done.step (fun _ => XS.iload X0.here hx rfl (hb hby at_68) rfl) ?_
          show Done _ p e below s _ _ (T0.setTop (mkF m 70 #[.val (.int aa), .val (.int bb), .val (.int pp), .val (.int qq), .val (.int fl), .val (.int (1 : Int32)), .val (.int (1 : Int32)), .val (.int ((aa &&& (255 : Int32)).toUInt32.toUInt16.toUInt32.toInt32)), .val (.int ((((aa.toUInt32 >>> ((8 : Int32) &&& 31).toUInt32).toInt32) &&& (255 : Int32)).toUInt32.toUInt16.toUInt32.toInt32)), .val (.int ((aa &&& (255 : Int32)).toUInt32.toUInt16.toUInt32.toInt32)), .unset, .unset, .unset, .unset, .unset, .unset, .unset, .unset, .unset] [(.int ((((aa.toUInt32 >>> ((8 : Int32) &&& 31).toUInt32).toInt32) &&& (255 : Int32)).toUInt32.toUInt16.toUInt32.toInt32))]))
          refine Done.step (fun _ => XS.goto X0.here hx rfl (pc0 := 70) (pc' := 82) rfl (hb hby at_70) (by decide) (by decide)) ?_
          show Done _ p e below s _ _ (T0.setTop (mkF m 82 #[.val (.int aa), .val (.int bb), .val (.int pp), .val (.int qq), .val (.int fl), .val (.int (1 : Int32)), .val (.int (1 : Int32)), .val (.int ((aa &&& (255 : Int32)).toUInt32.toUInt16.toUInt32.toInt32)), .val (.int ((((aa.toUInt32 >>> ((8 : Int32) &&& 31).toUInt32).toInt32) &&& (255 : Int32)).toUInt32.toUInt16.toUInt32.toInt32)), .val (.int ((aa &&& (255 : Int32)).toUInt32.toUInt16.toUInt32.toInt32)), .unset, .unset, .unset, .unset, .unset, .unset, .unset, .unset, .unset] [(.int ((((aa.toUInt32 >>> ((8 : Int32) &&& 31).toUInt32).toInt32) &&& (255 : Int32)).toUInt32.toUInt16.toUInt32.toInt32))]))
          refine Done.step (fun _ => XS.istore X0.here hx rfl (hb hby at_82) rfl (l' := #[.val (.int aa), .val (.int bb), .val (.int pp), .val (.int qq), .val (.int fl), .val (.int (1 : Int32)), .val (.int (1 : Int32)), .val (.int ((aa &&& (255 : Int32)).toUInt32.toUInt16.toUInt32.toInt32)), .val (.int ((((aa.toUInt32 >>> ((8 : Int32) &&& 31).toUInt32).toInt32) &&& (255 : Int32)).toUInt32.toUInt16.toUInt32.toInt32)), .val (.int ((aa &&& (255 : Int32)).toUInt32.toUInt16.toUInt32.toInt32)), .val (.int ((((aa.toUInt32 >>> ((8 : Int32) &&& 31).toUInt32).toInt32) &&& (255 : Int32)).toUInt32.toUInt16.toUInt32.toInt32)), .unset, .unset, .unset, .unset, .unset, .unset, .unset, .unset]) rfl) ?_
          show Done _ p e below s _ _ (T0.setTop (mkF m 84 #[.val (.int aa), .val (.int bb), .val (.int pp), .val (.int qq), .val (.int fl), .val (.int (1 : Int32)), .val (.int (1 : Int32)), .val (.int ((aa &&& (255 : Int32)).toUInt32.toUInt16.toUInt32.toInt32)), .val (.int ((((aa.toUInt32 >>> ((8 : Int32) &&& 31).toUInt32).toInt32) &&& (255 : Int32)).toUInt32.toUInt16.toUInt32.toInt32)), .val (.int ((aa &&& (255 : Int32)).toUInt32.toUInt16.toUInt32.toInt32)), .val (.int ((((aa.toUInt32 >>> ((8 : Int32) &&& 31).toUInt32).toInt32) &&& (255 : Int32)).toUInt32.toUInt16.toUInt32.toInt32)), .unset, .unset, .unset, .unset, .unset, .unset, .unset, .unset] []))
          exact K84 ((aa &&& (255 : Int32)).toUInt32.toUInt16.toUInt32.toInt32) ((((aa.toUInt32 >>> ((8 : Int32) &&& 31).toUInt32).toInt32) &&& (255 : Int32)).toUInt32.toUInt16.toUInt32.toInt32) ((aa &&& (255 : Int32)).toUInt32.toUInt16.toUInt32.toInt32) ((((aa.toUInt32 >>> ((8 : Int32) &&& 31).toUInt32).toInt32) &&& (255 : Int32)).toUInt32.toUInt16.toUInt32.toInt32) (own_ch _) (own_ch _) (own_ch _) (own_ch _)
    · rw [hv]
      show Done _ p e below s _ _ (T0.setTop (mkF m 18 #[.val (.int aa), .val (.int bb), .val (.int pp), .val (.int qq), .val (.int fl), .val (.int (1 : Int32)), .val (.int (2 : Int32)), .unset, .unset, .unset, .unset, .unset, .unset, .unset, .unset, .unset, .unset, .unset, .unset] []))
      refine Done.step (fun _ => XS.iloadN X0.here hx rfl (hb hby at_18) rfl) ?_
      show Done _ p e below s _ _ (T0.setTop (mkF m 19 #[.val (.int aa), .val (.int bb), .val (.int pp), .val (.int qq), .val (.int fl), .val (.int (1 : Int32)), .val (.int (2 : Int32)), .unset, .unset, .unset, .unset, .unset, .unset, .unset, .unset, .unset, .unset, .unset, .unset] [(.int aa)]))
      refine Done.step (fun _ => XT.sipushV X0.here hx rfl (255 : Int32) (hb hby at_19) (by decide)) ?_
      show Done _ p e below s _ _ (T0.setTop (mkF m 22 #[.val (.int aa), .val (.int bb), .val (.int pp), .val (.int qq), .val (.int fl), .val (.int (1 : Int32)), .val (.int (2 : Int32)), .unset, .unset, .unset, .unset, .unset, .unset, .unset, .unset, .unset, .unset, .unset, .unset] [(.int (255 : Int32)), (.int aa)]))
      refine Done.step (fun _ => XS.iand X0.here hx rfl (hb hby at_22) rfl) ?_
      show Done _ p e below s _ _ (T0.setTop (mkF m 23 #[.val (.int aa), .val (.int bb), .val (.int pp), .val (.int qq), .val (.int fl), .val (.int (1 : Int32)), .val (.int (2 : Int32)), .unset, .unset, .unset, .unset, .unset, .unset, .unset, .unset, .unset, .unset, .unset, .unset] [(.int (aa &&& (255 : Int32)))]))
      refine Done.step (fun _ => XT.i2c X0.here hx rfl (hb hby at_23) rfl) ?_
      show Done _ p e below s _ _ (T0.setTop (mkF m 24 #[.val (.int aa), .val (.int bb), .val (.int pp), .val (.int qq), .val (.int fl), .val (.int (1 : Int32)), .val (.int (2 : Int32)), .unset, .unset, .unset, .unset, .unset, .unset, .unset, .unset, .unset, .unset, .unset, .unset] [(.int ((aa &&& (255 : Int32)).toUInt32.toUInt16.toUInt32.toInt32))]))
      refine Done.step (fun _ => XS.istore X0.here hx rfl (hb hby at_24) rfl (l' := #[.val (.int aa), .val (.int bb), .val (.int pp), .val (.int qq), .val (.int fl), .val (.int (1 : Int32)), .val (.int (2 : Int32)), .val (.int ((aa &&& (255 : Int32)).toUInt32.toUInt16.toUInt32.toInt32)), .unset, .unset, .unset, .unset, .unset, .unset, .unset, .unset, .unset, .unset, .unset]) rfl) ?_
      show Done _ p e below s _ _ (T0.setTop (mkF m 26 #[.val (.int aa), .val (.int bb), .val (.int pp), .val (.int qq), .val (.int fl), .val (.int (1 : Int32)), .val (.int (2 : Int32)), .val (.int ((aa &&& (255 : Int32)).toUInt32.toUInt16.toUInt32.toInt32)), .unset, .unset, .unset, .unset, .unset, .unset, .unset, .unset, .unset, .unset, .unset] []))
      refine Done.step (fun _ => XS.iloadN X0.here hx rfl (hb hby at_26) rfl) ?_
      show Done _ p e below s _ _ (T0.setTop (mkF m 27 #[.val (.int aa), .val (.int bb), .val (.int pp), .val (.int qq), .val (.int fl), .val (.int (1 : Int32)), .val (.int (2 : Int32)), .val (.int ((aa &&& (255 : Int32)).toUInt32.toUInt16.toUInt32.toInt32)), .unset, .unset, .unset, .unset, .unset, .unset, .unset, .unset, .unset, .unset, .unset] [(.int aa)]))
      refine Done.step (fun _ => XT.bipushV X0.here hx rfl (8 : Int32) (hb hby at_27) (by decide)) ?_
      show Done _ p e below s _ _ (T0.setTop (mkF m 29 #[.val (.int aa), .val (.int bb), .val (.int pp), .val (.int qq), .val (.int fl), .val (.int (1 : Int32)), .val (.int (2 : Int32)), .val (.int ((aa &&& (255 : Int32)).toUInt32.toUInt16.toUInt32.toInt32)), .unset, .unset, .unset, .unset, .unset, .unset, .unset, .unset, .unset, .unset, .unset] [(.int (8 : Int32)), (.int aa)]))
      refine Done.step (fun _ => XT.iushr X0.here hx rfl (hb hby at_29) rfl) ?_
      show Done _ p e below s _ _ (T0.setTop (mkF m 30 #[.val (.int aa), .val (.int bb), .val (.int pp), .val (.int qq), .val (.int fl), .val (.int (1 : Int32)), .val (.int (2 : Int32)), .val (.int ((aa &&& (255 : Int32)).toUInt32.toUInt16.toUInt32.toInt32)), .unset, .unset, .unset, .unset, .unset, .unset, .unset, .unset, .unset, .unset, .unset] [(.int ((aa.toUInt32 >>> ((8 : Int32) &&& 31).toUInt32).toInt32))]))
      refine Done.step (fun _ => XT.sipushV X0.here hx rfl (255 : Int32) (hb hby at_30) (by decide)) ?_
      show Done _ p e below s _ _ (T0.setTop (mkF m 33 #[.val (.int aa), .val (.int bb), .val (.int pp), .val (.int qq), .val (.int fl), .val (.int (1 : Int32)), .val (.int (2 : Int32)), .val (.int ((aa &&& (255 : Int32)).toUInt32.toUInt16.toUInt32.toInt32)), .unset, .unset, .unset, .unset, .unset, .unset, .unset, .unset, .unset, .unset, .unset] [(.int (255 : Int32)), (.int ((aa.toUInt32 >>> ((8 : Int32) &&& 31).toUInt32).toInt32))]))
      refine Done.step (fun _ => XS.iand X0.here hx rfl (hb hby at_33) rfl) ?_
      show Done _ p e below s _ _ (T0.setTop (mkF m 34 #[.val (.int aa), .val (.int bb), .val (.int pp), .val (.int qq), .val (.int fl), .val (.int (1 : Int32)), .val (.int (2 : Int32)), .val (.int ((aa &&& (255 : Int32)).toUInt32.toUInt16.toUInt32.toInt32)), .unset, .unset, .unset, .unset, .unset, .unset, .unset, .unset, .unset, .unset, .unset] [(.int (((aa.toUInt32 >>> ((8 : Int32) &&& 31).toUInt32).toInt32) &&& (255 : Int32)))]))
      refine Done.step (fun _ => XT.i2c X0.here hx rfl (hb hby at_34) rfl) ?_
      show Done _ p e below s _ _ (T0.setTop (mkF m 35 #[.val (.int aa), .val (.int bb), .val (.int pp), .val (.int qq), .val (.int fl), .val (.int (1 : Int32)), .val (.int (2 : Int32)), .val (.int ((aa &&& (255 : Int32)).toUInt32.toUInt16.toUInt32.toInt32)), .unset, .unset, .unset, .unset, .unset, .unset, .unset, .unset, .unset, .unset, .unset] [(.int ((((aa.toUInt32 >>> ((8 : Int32) &&& 31).toUInt32).toInt32) &&& (255 : Int32)).toUInt32.toUInt16.toUInt32.toInt32))]))
      refine Done.step (fun _ => XS.istore X0.here hx rfl (hb hby at_35) rfl (l' := #[.val (.int aa), .val (.int bb), .val (.int pp), .val (.int qq), .val (.int fl), .val (.int (1 : Int32)), .val (.int (2 : Int32)), .val (.int ((aa &&& (255 : Int32)).toUInt32.toUInt16.toUInt32.toInt32)), .val (.int ((((aa.toUInt32 >>> ((8 : Int32) &&& 31).toUInt32).toInt32) &&& (255 : Int32)).toUInt32.toUInt16.toUInt32.toInt32)), .unset, .unset, .unset, .unset, .unset, .unset, .unset, .unset, .unset, .unset]) rfl) ?_
      show Done _ p e below s _ _ (T0.setTop (mkF m 37 #[.val (.int aa), .val (.int bb), .val (.int pp), .val (.int qq), .val (.int fl), .val (.int (1 : Int32)), .val (.int (2 : Int32)), .val (.int ((aa &&& (255 : Int32)).toUInt32.toUInt16.toUInt32.toInt32)), .val (.int ((((aa.toUInt32 >>> ((8 : Int32) &&& 31).toUInt32).toInt32) &&& (255 : Int32)).toUInt32.toUInt16.toUInt32.toInt32)), .unset, .unset, .unset, .unset, .unset, .unset, .unset, .unset, .unset, .unset] []))
      have K84 : ∀ (c0 c1 d0 d1 : Int32) (bc0 : ¬ c0 < 0 ∧ ¬ (255 : Int32) < c0) (bc1 : ¬ c1 < 0 ∧ ¬ (255 : Int32) < c1) (bd0 : ¬ d0 < 0 ∧ ¬ (255 : Int32) < d0) (bd1 : ¬ d1 < 0 ∧ ¬ (255 : Int32) < d1), Done FrameEnd p e below s room_1 (LawQ n0) (T0.setTop (mkF m 84 #[.val (.int aa), .val (.int bb), .val (.int pp), .val (.int qq), .val (.int fl), .val (.int (1 : Int32)), .val (.int (2 : Int32)), .val (.int c0), .val (.int c1), .val (.int d0), .val (.int d1), .unset, .unset, .unset, .unset, .unset, .unset, .unset, .unset] [])) := by
        intro c0 c1 d0 d1 bc0 bc1 bd0 bd1
        show Done _ p e below s _ _ (T0.setTop (mkF m 84 #[.val (.int aa), .val (.int bb), .val (.int pp), .val (.int qq), .val (.int fl), .val (.int (1 : Int32)), .val (.int (2 : Int32)), .val (.int c0), .val (.int c1), .val (.int d0), .val (.int d1), .unset, .unset, .unset, .unset, .unset, .unset, .unset, .unset] []))
        refine Done.step (fun _ => XS.iload X0.here hx rfl (hb hby at_84) rfl) ?_
        show Done _ p e below s _ _ (T0.setTop (mkF m 86 #[.val (.int aa), .val (.int bb), .val (.int pp), .val (.int qq), .val (.int fl), .val (.int (1 : Int32)), .val (.int (2 : Int32)), .val (.int c0), .val (.int c1), .val (.int d0), .val (.int d1), .unset, .unset, .unset, .unset, .unset, .unset, .unset, .unset] [(.int (1 : Int32))]))
        obtain ⟨T74, h74, k74, X74, e74, E74, A74, st74⟩ := newP X0 hx hZ (wAt hw 0 rfl) e0 (g := (mkF m 86 #[.val (.int aa), .val (.int bb), .val (.int pp), .val (.int qq), .val (.int fl), .val (.int (1 : Int32)), .val (.int (2 : Int32)), .val (.int c0), .val (.int c1), .val (.int d0), .val (.int d1), .unset, .unset, .unset, .unset, .unset, .unset, .unset, .unset] [(.int (1 : Int32))])) rfl (hb hby at_86) rfl (by decide) (cap := 1) (by decide) (by decide) (by decide) (by decide)
        obtain ⟨b74, g74⟩ : ∃ z, z = h0.size := ⟨_, rfl⟩
        rw [← g74] at A74 st74
        have n0_b74 : n0 ≤ b74 := by rw [g74]; exact Z0
        have Zs74 := Nat.le_trans Z0 E74.1
        have V_b74 : Arv Z h74 b74 k74 .char (1 : Int32) [(.int (0 : Int32))] (.int (0 : Int32)) := (Arv.new A74 (by decide)).pad (pad_rep [] (.int (0 : Int32)) 1)
        refine Done.step st74 ?_
        show Done _ p e below s _ _ (T74.setTop (mkF m 88 #[.val (.int aa), .val (.int bb), .val (.int pp), .val (.int qq), .val (.int fl), .val (.int (1 : Int32)), .val (.int (2 : Int32)), .val (.int c0), .val (.int c1), .val (.int d0), .val (.int d1), .unset, .unset, .unset, .unset, .unset, .unset, .unset, .unset] [(.ref b74)]))
        refine Done.step (fun _ => XS.astore X74.here hx rfl (hb hby at_88) rfl rfl (l' := #[.val (.int aa), .val (.int bb), .val (.int pp), .val (.int qq), .val (.int fl), .val (.int (1 : Int32)), .val (.int (2 : Int32)), .val (.int c0), .val (.int c1), .val (.int d0), .val (.int d1), .val (.ref b74), .unset, .unset, .unset, .unset, .unset, .unset, .unset]) rfl) ?_
        show Done _ p e below s _ _ (T74.setTop (mkF m 90 #[.val (.int aa), .val (.int bb), .val (.int pp), .val (.int qq), .val (.int fl), .val (.int (1 : Int32)), .val (.int (2 : Int32)), .val (.int c0), .val (.int c1), .val (.int d0), .val (.int d1), .val (.ref b74), .unset, .unset, .unset, .unset, .unset, .unset, .unset] []))
        refine Done.step (fun _ => XS.aload X74.here hx rfl (hb hby at_90) rfl rfl) ?_
        show Done _ p e below s _ _ (T74.setTop (mkF m 92 #[.val (.int aa), .val (.int bb), .val (.int pp), .val (.int qq), .val (.int fl), .val (.int (1 : Int32)), .val (.int (2 : Int32)), .val (.int c0), .val (.int c1), .val (.int d0), .val (.int d1), .val (.ref b74), .unset, .unset, .unset, .unset, .unset, .unset, .unset] [(.ref b74)]))
        refine Done.step (fun _ => XT.iconstV X74.here hx rfl (0 : Int32) (hb hby at_92) (by decide)) ?_
        show Done _ p e below s _ _ (T74.setTop (mkF m 93 #[.val (.int aa), .val (.int bb), .val (.int pp), .val (.int qq), .val (.int fl), .val (.int (1 : Int32)), .val (.int (2 : Int32)), .val (.int c0), .val (.int c1), .val (.int d0), .val (.int d1), .val (.ref b74), .unset, .unset, .unset, .unset, .unset, .unset, .unset] [(.int (0 : Int32)), (.ref b74)]))
        refine Done.step (fun _ => XS.iload X74.here hx rfl (hb hby at_93) rfl) ?_
        show Done _ p e below s _ _ (T74.setTop (mkF m 95 #[.val (.int aa), .val (.int bb), .val (.int pp), .val (.int qq), .val (.int fl), .val (.int (1 : Int32)), .val (.int (2 : Int32)), .val (.int c0), .val (.int c1), .val (.int d0), .val (.int d1), .val (.ref b74), .unset, .unset, .unset, .unset, .unset, .unset, .unset] [(.int c0), (.int (0 : Int32)), (.ref b74)]))
        obtain ⟨cl75, Ar75, q75, S75, Nn75, H75, G75⟩ := V_b74
        have hin75 : ¬ ((0 : Int32) < 0 ∨ cl75.slots.size ≤ ((0 : Int32)).toNatClampNeg) := inb_of S75 ⟨by decide, by decide⟩
        obtain ⟨T75, h75, X75, e75, W75, st75⟩ := stC X74 hx hZ e74 Ar75 (j := (0 : Int32)) hin75 (g := (mkF m 95 #[.val (.int aa), .val (.int bb), .val (.int pp), .val (.int qq), .val (.int fl), .val (.int (1 : Int32)), .val (.int (2 : Int32)), .val (.int c0), .val (.int c1), .val (.int d0), .val (.int d1), .val (.ref b74), .unset, .unset, .unset, .unset, .unset, .unset, .unset] [(.int c0), (.int (0 : Int32)), (.ref b74)])) rfl rfl (hb hby at_95)
        have V75 := Arv.set Ar75 q75 S75 Nn75 H75 G75 (fits_nar_char _) W75 0 rfl (Nat.le_of_ble_eq_true rfl)
        have N75 := Fr.snoc X75 N0 n0_b74
        have Zs75 := Nat.le_trans Zs74 (Keep.of_wr W75).1
        refine Done.step st75 ?_
        show Done _ p e below s _ _ (T75.setTop (mkF m 96 #[.val (.int aa), .val (.int bb), .val (.int pp), .val (.int qq), .val (.int fl), .val (.int (1 : Int32)), .val (.int (2 : Int32)), .val (.int c0), .val (.int c1), .val (.int d0), .val (.int d1), .val (.ref b74), .unset, .unset, .unset, .unset, .unset, .unset, .unset] []))
        refine Done.step (fun _ => XS.iload X75.here hx rfl (hb hby at_96) rfl) ?_
        show Done _ p e below s _ _ (T75.setTop (mkF m 98 #[.val (.int aa), .val (.int bb), .val (.int pp), .val (.int qq), .val (.int fl), .val (.int (1 : Int32)), .val (.int (2 : Int32)), .val (.int c0), .val (.int c1), .val (.int d0), .val (.int d1), .val (.ref b74), .unset, .unset, .unset, .unset, .unset, .unset, .unset] [(.int (1 : Int32))]))
        refine Done.step (fun _ => XT.iconstV X75.here hx rfl (2 : Int32) (hb hby at_98) (by decide)) ?_
        show Done _ p e below s _ _ (T75.setTop (mkF m 99 #[.val (.int aa), .val (.int bb), .val (.int pp), .val (.int qq), .val (.int fl), .val (.int (1 : Int32)), .val (.int (2 : Int32)), .val (.int c0), .val (.int c1), .val (.int d0), .val (.int d1), .val (.ref b74), .unset, .unset, .unset, .unset, .unset, .unset, .unset] [(.int (2 : Int32)), (.int (1 : Int32))]))
        refine Done.step (fun _ => XS.icmpYes X75.here hx rfl (pc0 := 99) (pc' := 108) rfl (hb hby at_99) rfl (XT.ii_ne_t (by decide)) (by decide) (by decide)) ?_
        show Done _ p e below s _ _ (T75.setTop (mkF m 108 #[.val (.int aa), .val (.int bb), .val (.int pp), .val (.int qq), .val (.int fl), .val (.int (1 : Int32)), .val (.int (2 : Int32)), .val (.int c0), .val (.int c1), .val (.int d0), .val (.int d1), .val (.ref b74), .unset, .unset, .unset, .unset, .unset, .unset, .unset] []))
        refine Done.step (fun _ => XS.iload X75.here hx rfl (hb hby at_108) rfl) ?_
        show Done _ p e below s _ _ (T75.setTop (mkF m 110 #[.val (.int aa), .val (.int bb), .val (.int pp), .val (.int qq), .val (.int fl), .val (.int (1 : Int32)), .val (.int (2 : Int32)), .val (.int c0), .val (.int c1), .val (.int d0), .val (.int d1), .val (.ref b74), .unset, .unset, .unset, .unset, .unset, .unset, .unset] [(.int (2 : Int32))]))
        obtain ⟨T76, h76, k76, X76, e76, E76, A76, st76⟩ := newP X75 hx hZ (wAt hw 0 rfl) e75 (g := (mkF m 110 #[.val (.int aa), .val (.int bb), .val (.int pp), .val (.int qq), .val (.int fl), .val (.int (1 : Int32)), .val (.int (2 : Int32)), .val (.int c0), .val (.int c1), .val (.int d0), .val (.int d1), .val (.ref b74), .unset, .unset, .unset, .unset, .unset, .unset, .unset] [(.int (2 : Int32))])) rfl (hb hby at_110) rfl (by decide) (cap := 2) (by decide) (by decide) (by decide) (by decide)
        obtain ⟨b76, g76⟩ : ∃ z, z = h75.size := ⟨_, rfl⟩
        rw [← g76] at A76 st76
        have ne_b74_b76 : b74 ≠ b76 := by rw [g76]; exact Nat.ne_of_lt V75.lt
        have n0_b76 : n0 ≤ b76 := by rw [g76]; exact Zs75
        have Zs76 := Nat.le_trans Zs75 E76.1
        have V_b76 : Arv Z h76 b76 k76 .char (2 : Int32) [(.int (0 : Int32)), (.int (0 : Int32))] (.int (0 : Int32)) := (Arv.new A76 (by decide)).pad (pad_rep [] (.int (0 : Int32)) 2)
        refine Done.step st76 ?_
        show Done _ p e below s _ _ (T76.setTop (mkF m 112 #[.val (.int aa), .val (.int bb), .val (.int pp), .val (.int qq), .val (.int fl), .val (.int (1 : Int32)), .val (.int (2 : Int32)), .val (.int c0), .val (.int c1), .val (.int d0), .val (.int d1), .val (.ref b74), .unset, .unset, .unset, .unset, .unset, .unset, .unset] [(.ref b76)]))
        refine Done.step (fun _ => XS.astore X76.here hx rfl (hb hby at_112) rfl rfl (l' := #[.val (.int aa), .val (.int bb), .val (.int pp), .val (.int qq), .val (.int fl), .val (.int (1 : Int32)), .val (.int (2 : Int32)), .val (.int c0), .val (.int c1), .val (.int d0), .val (.int d1), .val (.ref b74), .val (.ref b76), .unset, .unset, .unset, .unset, .unset, .unset]) rfl) ?_
        show Done _ p e below s _ _ (T76.setTop (mkF m 114 #[.val (.int aa), .val (.int bb), .val (.int pp), .val (.int qq), .val (.int fl), .val (.int (1 : Int32)), .val (.int (2 : Int32)), .val (.int c0), .val (.int c1), .val (.int d0), .val (.int d1), .val (.ref b74), .val (.ref b76), .unset, .unset, .unset, .unset, .unset, .unset] []))
        refine Done.step (fun _ => XS.aload X76.here hx rfl (hb hby at_114) rfl rfl) ?_
        show Done _ p e below s _ _ (T76.setTop (mkF m 116 #[.val (.int aa), .val (.int bb), .val (.int pp), .val (.int qq), .val (.int fl), .val (.int (1 : Int32)), .val (.int (2 : Int32)), .val (.int c0), .val (.int c1), .val (.int d0), .val (.int d1), .val (.ref b74), .val (.ref b76), .unset, .unset, .unset, .unset, .unset, .unset] [(.ref b76)]))
        refine Done.step (fun _ => XT.iconstV X76.here hx rfl (0 : Int32) (hb hby at_116) (by decide)) ?_
        show Done _ p e below s _ _ (T76.setTop (mkF m 117 #[.val (.int aa), .val (.int bb), .val (.int pp), .val (.int qq), .val (.int fl), .val (.int (1 : Int32)), .val (.int (2 : Int32)), .val (.int c0), .val (.int c1), .val (.int d0), .val (.int d1), .val (.ref b74), .val (.ref b76), .unset, .unset, .unset, .unset, .unset, .unset] [(.int (0 : Int32)), (.ref b76)]))
        refine Done.step (fun _ => XS.iload X76.here hx rfl (hb hby at_117) rfl) ?_
        show Done _ p e below s _ _ (T76.setTop (mkF m 119 #[.val (.int aa), .val (.int bb), .val (.int pp), .val (.int qq), .val (.int fl), .val (.int (1 : Int32)), .val (.int (2 : Int32)), .val (.int c0), .val (.int c1), .val (.int d0), .val (.int d1), .val (.ref b74), .val (.ref b76), .unset, .unset, .unset, .unset, .unset, .unset] [(.int d0), (.int (0 : Int32)), (.ref b76)]))
        obtain ⟨cl77, Ar77, q77, S77, Nn77, H77, G77⟩ := V_b76
        have hin77 : ¬ ((0 : Int32) < 0 ∨ cl77.slots.size ≤ ((0 : Int32)).toNatClampNeg) := inb_of S77 ⟨by decide, by decide⟩
        obtain ⟨T77, h77, X77, e77, W77, st77⟩ := stC X76 hx hZ e76 Ar77 (j := (0 : Int32)) hin77 (g := (mkF m 119 #[.val (.int aa), .val (.int bb), .val (.int pp), .val (.int qq), .val (.int fl), .val (.int (1 : Int32)), .val (.int (2 : Int32)), .val (.int c0), .val (.int c1), .val (.int d0), .val (.int d1), .val (.ref b74), .val (.ref b76), .unset, .unset, .unset, .unset, .unset, .unset] [(.int d0), (.int (0 : Int32)), (.ref b76)])) rfl rfl (hb hby at_119)
        have V77 := Arv.set Ar77 q77 S77 Nn77 H77 G77 (fits_nar_char _) W77 0 rfl (Nat.le_of_ble_eq_true rfl)
        have N77 := Fr.snoc X77 N75 n0_b76
        have Zs77 := Nat.le_trans Zs76 (Keep.of_wr W77).1
        refine Done.step st77 ?_
        show Done _ p e below s _ _ (T77.setTop (mkF m 120 #[.val (.int aa), .val (.int bb), .val (.int pp), .val (.int qq), .val (.int fl), .val (.int (1 : Int32)), .val (.int (2 : Int32)), .val (.int c0), .val (.int c1), .val (.int d0), .val (.int d1), .val (.ref b74), .val (.ref b76), .unset, .unset, .unset, .unset, .unset, .unset] []))
        refine Done.step (fun _ => XS.iload X77.here hx rfl (hb hby at_120) rfl) ?_
        show Done _ p e below s _ _ (T77.setTop (mkF m 122 #[.val (.int aa), .val (.int bb), .val (.int pp), .val (.int qq), .val (.int fl), .val (.int (1 : Int32)), .val (.int (2 : Int32)), .val (.int c0), .val (.int c1), .val (.int d0), .val (.int d1), .val (.ref b74), .val (.ref b76), .unset, .unset, .unset, .unset, .unset, .unset] [(.int (2 : Int32))]))
        refine Done.step (fun _ => XT.iconstV X77.here hx rfl (2 : Int32) (hb hby at_122) (by decide)) ?_
        show Done _ p e below s _ _ (T77.setTop (mkF m 123 #[.val (.int aa), .val (.int bb), .val (.int pp), .val (.int qq), .val (.int fl), .val (.int (1 : Int32)), .val (.int (2 : Int32)), .val (.int c0), .val (.int c1), .val (.int d0), .val (.int d1), .val (.ref b74), .val (.ref b76), .unset, .unset, .unset, .unset, .unset, .unset] [(.int (2 : Int32)), (.int (2 : Int32))]))
        refine Done.step (fun _ => XS.icmpNo X77.here hx rfl (hb hby at_123) rfl (XT.ii_ne_f rfl)) ?_
        show Done _ p e below s _ _ (T77.setTop (mkF m 126 #[.val (.int aa), .val (.int bb), .val (.int pp), .val (.int qq), .val (.int fl), .val (.int (1 : Int32)), .val (.int (2 : Int32)), .val (.int c0), .val (.int c1), .val (.int d0), .val (.int d1), .val (.ref b74), .val (.ref b76), .unset, .unset, .unset, .unset, .unset, .unset] []))
        refine Done.step (fun _ => XS.aload X77.here hx rfl (hb hby at_126) rfl rfl) ?_
        show Done _ p e below s _ _ (T77.setTop (mkF m 128 #[.val (.int aa), .val (.int bb), .val (.int pp), .val (.int qq), .val (.int fl), .val (.int (1 : Int32)), .val (.int (2 : Int32)), .val (.int c0), .val (.int c1), .val (.int d0), .val (.int d1), .val (.ref b74), .val (.ref b76), .unset, .unset, .unset, .unset, .unset, .unset] [(.ref b76)]))
        refine Done.step (fun _ => XT.iconstV X77.here hx rfl (1 : Int32) (hb hby at_128) (by decide)) ?_
        show Done _ p e below s _ _ (T77.setTop (mkF m 129 #[.val (.int aa), .val (.int bb), .val (.int pp), .val (.int qq), .val (.int fl), .val (.int (1 : Int32)), .val (.int (2 : Int32)), .val (.int c0), .val (.int c1), .val (.int d0), .val (.int d1), .val (.ref b74), .val (.ref b76), .unset, .unset, .unset, .unset, .unset, .unset] [(.int (1 : Int32)), (.ref b76)]))
        refine Done.step (fun _ => XS.iload X77.here hx rfl (hb hby at_129) rfl) ?_
        show Done _ p e below s _ _ (T77.setTop (mkF m 131 #[.val (.int aa), .val (.int bb), .val (.int pp), .val (.int qq), .val (.int fl), .val (.int (1 : Int32)), .val (.int (2 : Int32)), .val (.int c0), .val (.int c1), .val (.int d0), .val (.int d1), .val (.ref b74), .val (.ref b76), .unset, .unset, .unset, .unset, .unset, .unset] [(.int d1), (.int (1 : Int32)), (.ref b76)]))
        obtain ⟨cl78, Ar78, q78, S78, Nn78, H78, G78⟩ := V77
        have hin78 : ¬ ((1 : Int32) < 0 ∨ cl78.slots.size ≤ ((1 : Int32)).toNatClampNeg) := inb_of S78 ⟨by decide, by decide⟩
        obtain ⟨T78, h78, X78, e78, W78, st78⟩ := stC X77 hx hZ e77 Ar78 (j := (1 : Int32)) hin78 (g := (mkF m 131 #[.val (.int aa), .val (.int bb), .val (.int pp), .val (.int qq), .val (.int fl), .val (.int (1 : Int32)), .val (.int (2 : Int32)), .val (.int c0), .val (.int c1), .val (.int d0), .val (.int d1), .val (.ref b74), .val (.ref b76), .unset, .unset, .unset, .unset, .unset, .unset] [(.int d1), (.int (1 : Int32)), (.ref b76)])) rfl rfl (hb hby at_131)
        have V78 := Arv.set Ar78 q78 S78 Nn78 H78 G78 (fits_nar_char _) W78 1 rfl (Nat.le_of_ble_eq_true rfl)
        have N78 := Fr.snoc X78 N77 n0_b76
        have Zs78 := Nat.le_trans Zs77 (Keep.of_wr W78).1
        refine Done.step st78 ?_
        show Done _ p e below s _ _ (T78.setTop (mkF m 132 #[.val (.int aa), .val (.int bb), .val (.int pp), .val (.int qq), .val (.int fl), .val (.int (1 : Int32)), .val (.int (2 : Int32)), .val (.int c0), .val (.int c1), .val (.int d0), .val (.int d1), .val (.ref b74), .val (.ref b76), .unset, .unset, .unset, .unset, .unset, .unset] []))
        refine Done.step (fun _ => XS.iloadN X78.here hx rfl (hb hby at_132) rfl) ?_
        show Done _ p e below s _ _ (T78.setTop (mkF m 133 #[.val (.int aa), .val (.int bb), .val (.int pp), .val (.int qq), .val (.int fl), .val (.int (1 : Int32)), .val (.int (2 : Int32)), .val (.int c0), .val (.int c1), .val (.int d0), .val (.int d1), .val (.ref b74), .val (.ref b76), .unset, .unset, .unset, .unset, .unset, .unset] [(.int pp)]))
        refine Done.step (fun _ => Stand.ldcI X78 hx hown (mvT hZ (wAt hw 1 rfl)) (g := (mkF m 133 #[.val (.int aa), .val (.int bb), .val (.int pp), .val (.int qq), .val (.int fl), .val (.int (1 : Int32)), .val (.int (2 : Int32)), .val (.int c0), .val (.int c1), .val (.int d0), .val (.int d1), .val (.ref b74), .val (.ref b76), .unset, .unset, .unset, .unset, .unset, .unset] [(.int pp)])) rfl (hb hby at_133)) ?_
        show Done _ p e below s _ _ (T78.setTop (mkF m 135 #[.val (.int aa), .val (.int bb), .val (.int pp), .val (.int qq), .val (.int fl), .val (.int (1 : Int32)), .val (.int (2 : Int32)), .val (.int c0), .val (.int c1), .val (.int d0), .val (.int d1), .val (.ref b74), .val (.ref b76), .unset, .unset, .unset, .unset, .unset, .unset] [(.int (2147483647 : Int32)), (.int pp)]))
        refine Done.step (fun _ => XS.iand X78.here hx rfl (hb hby at_135) rfl) ?_
        show Done _ p e below s _ _ (T78.setTop (mkF m 136 #[.val (.int aa), .val (.int bb), .val (.int pp), .val (.int qq), .val (.int fl), .val (.int (1 : Int32)), .val (.int (2 : Int32)), .val (.int c0), .val (.int c1), .val (.int d0), .val (.int d1), .val (.ref b74), .val (.ref b76), .unset, .unset, .unset, .unset, .unset, .unset] [(.int (pp &&& (2147483647 : Int32)))]))
        refine Done.step (fun _ => Stand.ldcI X78 hx hown (mvT hZ (wAt hw 2 rfl)) (g := (mkF m 136 #[.val (.int aa), .val (.int bb), .val (.int pp), .val (.int qq), .val (.int fl), .val (.int (1 : Int32)), .val (.int (2 : Int32)), .val (.int c0), .val (.int c1), .val (.int d0), .val (.int d1), .val (.ref b74), .val (.ref b76), .unset, .unset, .unset, .unset, .unset, .unset] [(.int (pp &&& (2147483647 : Int32)))])) rfl (hb hby at_136)) ?_
        show Done _ p e below s _ _ (T78.setTop (mkF m 138 #[.val (.int aa), .val (.int bb), .val (.int pp), .val (.int qq), .val (.int fl), .val (.int (1 : Int32)), .val (.int (2 : Int32)), .val (.int c0), .val (.int c1), .val (.int d0), .val (.int d1), .val (.ref b74), .val (.ref b76), .unset, .unset, .unset, .unset, .unset, .unset] [(.int (65535 : Int32)), (.int (pp &&& (2147483647 : Int32)))]))
        refine Done.step (fun _ => iremM X78 hx rfl (hb hby at_138) rfl (by decide)) ?_
        show Done _ p e below s _ _ (T78.setTop (mkF m 139 #[.val (.int aa), .val (.int bb), .val (.int pp), .val (.int qq), .val (.int fl), .val (.int (1 : Int32)), .val (.int (2 : Int32)), .val (.int c0), .val (.int c1), .val (.int d0), .val (.int d1), .val (.ref b74), .val (.ref b76), .unset, .unset, .unset, .unset, .unset, .unset] [(.int ((pp &&& (2147483647 : Int32)) % (65535 : Int32)))]))
        refine Done.step (fun _ => XT.iconstV X78.here hx rfl (1 : Int32) (hb hby at_139) (by decide)) ?_
        show Done _ p e below s _ _ (T78.setTop (mkF m 140 #[.val (.int aa), .val (.int bb), .val (.int pp), .val (.int qq), .val (.int fl), .val (.int (1 : Int32)), .val (.int (2 : Int32)), .val (.int c0), .val (.int c1), .val (.int d0), .val (.int d1), .val (.ref b74), .val (.ref b76), .unset, .unset, .unset, .unset, .unset, .unset] [(.int (1 : Int32)), (.int ((pp &&& (2147483647 : Int32)) % (65535 : Int32)))]))
        refine Done.step (fun _ => XS.iadd X78.here hx rfl (hb hby at_140) rfl) ?_
        show Done _ p e below s _ _ (T78.setTop (mkF m 141 #[.val (.int aa), .val (.int bb), .val (.int pp), .val (.int qq), .val (.int fl), .val (.int (1 : Int32)), .val (.int (2 : Int32)), .val (.int c0), .val (.int c1), .val (.int d0), .val (.int d1), .val (.ref b74), .val (.ref b76), .unset, .unset, .unset, .unset, .unset, .unset] [(.int (((pp &&& (2147483647 : Int32)) % (65535 : Int32)) + (1 : Int32)))]))
        refine Done.step (fun _ => XS.istore X78.here hx rfl (hb hby at_141) rfl (l' := #[.val (.int aa), .val (.int bb), .val (.int pp), .val (.int qq), .val (.int fl), .val (.int (1 : Int32)), .val (.int (2 : Int32)), .val (.int c0), .val (.int c1), .val (.int d0), .val (.int d1), .val (.ref b74), .val (.ref b76), .val (.int (((pp &&& (2147483647 : Int32)) % (65535 : Int32)) + (1 : Int32))), .unset, .unset, .unset, .unset, .unset]) rfl) ?_
        show Done _ p e below s _ _ (T78.setTop (mkF m 143 #[.val (.int aa), .val (.int bb), .val (.int pp), .val (.int qq), .val (.int fl), .val (.int (1 : Int32)), .val (.int (2 : Int32)), .val (.int c0), .val (.int c1), .val (.int d0), .val (.int d1), .val (.ref b74), .val (.ref b76), .val (.int (((pp &&& (2147483647 : Int32)) % (65535 : Int32)) + (1 : Int32))), .unset, .unset, .unset, .unset, .unset] []))
        have hport1 := own_port pp
        have K168 : ∀ (q2 : Int32) (hq1 : ¬ q2 < (1 : Int32)) (hq2 : ¬ (65535 : Int32) < q2), Done FrameEnd p e below s room_1 (LawQ n0) (T78.setTop (mkF m 168 #[.val (.int aa), .val (.int bb), .val (.int pp), .val (.int qq), .val (.int fl), .val (.int (1 : Int32)), .val (.int (2 : Int32)), .val (.int c0), .val (.int c1), .val (.int d0), .val (.int d1), .val (.ref b74), .val (.ref b76), .val (.int (((pp &&& (2147483647 : Int32)) % (65535 : Int32)) + (1 : Int32))), .val (.int q2), .unset, .unset, .unset, .unset] [])) := by
          intro q2 hq1 hq2
          show Done _ p e below s _ _ (T78.setTop (mkF m 168 #[.val (.int aa), .val (.int bb), .val (.int pp), .val (.int qq), .val (.int fl), .val (.int (1 : Int32)), .val (.int (2 : Int32)), .val (.int c0), .val (.int c1), .val (.int d0), .val (.int d1), .val (.ref b74), .val (.ref b76), .val (.int (((pp &&& (2147483647 : Int32)) % (65535 : Int32)) + (1 : Int32))), .val (.int q2), .unset, .unset, .unset, .unset] []))
          obtain ⟨T79, h79, X79, e79, E79, A79, D79, -, st79⟩ := newO X78 hx hZ hown (wAt hw 3 rfl) (wAt hw 4 rfl) (wAt hw 5 rfl) e78 (g := (mkF m 168 #[.val (.int aa), .val (.int bb), .val (.int pp), .val (.int qq), .val (.int fl), .val (.int (1 : Int32)), .val (.int (2 : Int32)), .val (.int c0), .val (.int c1), .val (.int d0), .val (.int d1), .val (.ref b74), .val (.ref b76), .val (.int (((pp &&& (2147483647 : Int32)) % (65535 : Int32)) + (1 : Int32))), .val (.int q2), .unset, .unset, .unset, .unset] [])) rfl (hb hby at_168) (by decide) (by decide)
          obtain ⟨b79, g79⟩ : ∃ z, z = h78.size := ⟨_, rfl⟩
          rw [← g79] at A79 D79 st79
          have f80 := (((V75.ext E76).other W77 ne_b74_b76).other W78 ne_b74_b76)
          have ne_b74_b79 : b74 ≠ b79 := by rw [g79]; exact Nat.ne_of_lt f80.lt
          have ne_b76_b79 : b76 ≠ b79 := by rw [g79]; exact Nat.ne_of_lt V78.lt
          have n0_b79 : n0 ≤ b79 := by rw [g79]; exact Zs78
          have Zs79 := Nat.le_trans Zs78 E79.1
          have F_m_host_b79 : Fld Z h79 b79 "com/example/minho/minho/core/Address" "m_host" "Ljava/lang/String;" .null := D79 (Or.inr (wAt hw 46 rfl)) (ty := (.object "java/lang/String")) (by decide)
          have F_m_port_b79 : Fld Z h79 b79 "com/example/minho/minho/core/Address" "m_port" "I" (.int (0 : Int32)) := D79 (Or.inr (wAt hw 48 rfl)) (ty := .int) (by decide)
          refine Done.step st79 ?_
          show Done _ p e below s _ _ (T79.setTop (mkF m 171 #[.val (.int aa), .val (.int bb), .val (.int pp), .val (.int qq), .val (.int fl), .val (.int (1 : Int32)), .val (.int (2 : Int32)), .val (.int c0), .val (.int c1), .val (.int d0), .val (.int d1), .val (.ref b74), .val (.ref b76), .val (.int (((pp &&& (2147483647 : Int32)) % (65535 : Int32)) + (1 : Int32))), .val (.int q2), .unset, .unset, .unset, .unset] [(.ref b79)]))
          refine Done.step (fun _ => XS.dup X79.here hx rfl (hb hby at_171) rfl rfl) ?_
          show Done _ p e below s _ _ (T79.setTop (mkF m 172 #[.val (.int aa), .val (.int bb), .val (.int pp), .val (.int qq), .val (.int fl), .val (.int (1 : Int32)), .val (.int (2 : Int32)), .val (.int c0), .val (.int c1), .val (.int d0), .val (.int d1), .val (.ref b74), .val (.ref b76), .val (.int (((pp &&& (2147483647 : Int32)) % (65535 : Int32)) + (1 : Int32))), .val (.int q2), .unset, .unset, .unset, .unset] [(.ref b79), (.ref b79)]))
          obtain ⟨T81, h81, X81, e81, E81, A81, D81, -, st81⟩ := newO X79 hx hZ hown (wAt hw 6 rfl) (wAt hw 7 rfl) (wAt hw 8 rfl) e79 (g := (mkF m 172 #[.val (.int aa), .val (.int bb), .val (.int pp), .val (.int qq), .val (.int fl), .val (.int (1 : Int32)), .val (.int (2 : Int32)), .val (.int c0), .val (.int c1), .val (.int d0), .val (.int d1), .val (.ref b74), .val (.ref b76), .val (.int (((pp &&& (2147483647 : Int32)) % (65535 : Int32)) + (1 : Int32))), .val (.int q2), .unset, .unset, .unset, .unset] [(.ref b79), (.ref b79)])) rfl (hb hby at_172) (by decide) (by decide)
          obtain ⟨b81, g81⟩ : ∃ z, z = h79.size := ⟨_, rfl⟩
          rw [← g81] at A81 D81 st81
          have f82 := (f80.ext E79)
          have ne_b74_b81 : b74 ≠ b81 := by rw [g81]; exact Nat.ne_of_lt f82.lt
          have f83 := (V78.ext E79)
          have ne_b76_b81 : b76 ≠ b81 := by rw [g81]; exact Nat.ne_of_lt f83.lt
          have ne_b79_b81 : b79 ≠ b81 := by rw [g81]; exact Nat.ne_of_lt A79.lt
          have n0_b81 : n0 ≤ b81 := by rw [g81]; exact Zs79
          have Zs81 := Nat.le_trans Zs79 E81.1
          have F_coder_b81 : Fld Z h81 b81 "java/lang/String" "coder" "B" (.int (0 : Int32)) := D81 (Or.inr (wAt hw 32 rfl)) (ty := .byte) (by decide)
          have F_value_b81 : Fld Z h81 b81 "java/lang/String" "value" "[B" .null := D81 (Or.inr (wAt hw 34 rfl)) (ty := (.array .byte)) (by decide)
          refine Done.step st81 ?_
          show Done _ p e below s _ _ (T81.setTop (mkF m 175 #[.val (.int aa), .val (.int bb), .val (.int pp), .val (.int qq), .val (.int fl), .val (.int (1 : Int32)), .val (.int (2 : Int32)), .val (.int c0), .val (.int c1), .val (.int d0), .val (.int d1), .val (.ref b74), .val (.ref b76), .val (.int (((pp &&& (2147483647 : Int32)) % (65535 : Int32)) + (1 : Int32))), .val (.int q2), .unset, .unset, .unset, .unset] [(.ref b81), (.ref b79), (.ref b79)]))
          refine Done.step (fun _ => XS.dup X81.here hx rfl (hb hby at_175) rfl rfl) ?_
          show Done _ p e below s _ _ (T81.setTop (mkF m 176 #[.val (.int aa), .val (.int bb), .val (.int pp), .val (.int qq), .val (.int fl), .val (.int (1 : Int32)), .val (.int (2 : Int32)), .val (.int c0), .val (.int c1), .val (.int d0), .val (.int d1), .val (.ref b74), .val (.ref b76), .val (.int (((pp &&& (2147483647 : Int32)) % (65535 : Int32)) + (1 : Int32))), .val (.int q2), .unset, .unset, .unset, .unset] [(.ref b81), (.ref b81), (.ref b79), (.ref b79)]))
          refine Done.step (fun _ => XS.aload X81.here hx rfl (hb hby at_176) rfl rfl) ?_
          show Done _ p e below s _ _ (T81.setTop (mkF m 178 #[.val (.int aa), .val (.int bb), .val (.int pp), .val (.int qq), .val (.int fl), .val (.int (1 : Int32)), .val (.int (2 : Int32)), .val (.int c0), .val (.int c1), .val (.int d0), .val (.int d1), .val (.ref b74), .val (.ref b76), .val (.int (((pp &&& (2147483647 : Int32)) % (65535 : Int32)) + (1 : Int32))), .val (.int q2), .unset, .unset, .unset, .unset] [(.ref b74), (.ref b81), (.ref b81), (.ref b79), (.ref b79)]))
          have f85 := (f82.ext E81)
          have Vs84 : Arv Z h81 b74 k74 .char (1 : Int32) (([nar .char c0] : List Int32).map Value.int) (.int (0 : Int32)) := f85
          rw [own_nar bc0.1 (own_up [c0] (by intro c hc; cases List.mem_singleton.mp hc; exact bc0) _ (List.mem_singleton.mpr rfl)).2] at Vs84
          have hp86 : ∀ c ∈ ([c0] : List Int32), ¬ c < 0 ∧ ¬ (255 : Int32) < c := (by intro c hc; simp only [List.mem_cons, List.not_mem_nil, or_false] at hc; rcases hc with rfl <;> assumption)
          have hbd86 := own_up _ hp86
          have f87 := (((((((O0.ext E74).wr W75 n0_b74).ext E76).wr W77 n0_b76).wr W78 n0_b76).ext E79).ext E81)
          refine Done.callIB (nc := 1) (ns := 1) X81 hx hZ rfl hown (wAt hw 9 rfl) (wAt hw 10 rfl) (wAt hw 11 rfl) (by decide) (StrChars.Road.backV (W := 3) hZ (own_hws hw) (kI := 4) (wAt hw 7 rfl) (cs := ([c0] : List Int32)) (bs := ((([c0] : List Int32)).map (fun c => c.toInt8.toInt32))) (n := 1) n0_b81 Zs81 A81 F_value_b81 F_coder_b81 Vs84 (SC.ext f87.2) hz rfl rfl (by decide) (by decide) hp86 rfl (by decide) (by decide)) e81 (g := (mkF m 178 #[.val (.int aa), .val (.int bb), .val (.int pp), .val (.int qq), .val (.int fl), .val (.int (1 : Int32)), .val (.int (2 : Int32)), .val (.int c0), .val (.int c1), .val (.int d0), .val (.int d1), .val (.ref b74), .val (.ref b76), .val (.int (((pp &&& (2147483647 : Int32)) % (65535 : Int32)) + (1 : Int32))), .val (.int q2), .unset, .unset, .unset, .unset] [(.ref b74), (.ref b81), (.ref b81), (.ref b79), (.ref b79)])) rfl (by rw [hml]; rfl) b81 [(.ref b74)] [(.ref b81), (.ref b79), (.ref b79)] (lenOf pd_4 rfl) rfl rfl (by show 2 * 0 + _ ≤ _; exact Nat.le_of_eq rfl) (hb hby at_178) (by decide) (by decide) ?_
          intro T86 v86 L86 X86 q86
          obtain ⟨rfl, Nq86, K86q, Eq86, Cq86, t86, kb86, n0_t86, szt86, net86, Vq86, Aq86⟩ := q86
          have ne_b74_t86 : b74 ≠ t86 := Nat.ne_of_lt (Nat.lt_of_lt_of_le f85.lt szt86)
          have f88 := (f83.ext E81)
          have ne_b76_t86 : b76 ≠ t86 := Nat.ne_of_lt (Nat.lt_of_lt_of_le f88.lt szt86)
          have f89 := (A79.ext E81)
          have ne_b79_t86 : b79 ≠ t86 := Nat.ne_of_lt (Nat.lt_of_lt_of_le f89.lt szt86)
          have ne_b81_t86 : b81 ≠ t86 := Ne.symm net86
          have N86 := Fr.app N78 Nq86
          have Zs86 := Nat.le_trans Zs81 K86q.1
          have hcd86 : StrChars.Road.CodA ([c0] : List Int32) 0 (1 : Int32) ((((([c0] : List Int32)).map (fun c => c.toInt8.toInt32))).map Value.int) := StrChars.Road.codOf (n := 1) rfl (fun c hc => (hp86 c hc).2)
          show Done _ p e below s _ _ (T86.setTop (mkF m 181 #[.val (.int aa), .val (.int bb), .val (.int pp), .val (.int qq), .val (.int fl), .val (.int (1 : Int32)), .val (.int (2 : Int32)), .val (.int c0), .val (.int c1), .val (.int d0), .val (.int d1), .val (.ref b74), .val (.ref b76), .val (.int (((pp &&& (2147483647 : Int32)) % (65535 : Int32)) + (1 : Int32))), .val (.int q2), .unset, .unset, .unset, .unset] [(.ref b81), (.ref b79), (.ref b79)]))
          refine Done.step (fun _ => XS.iload X86.here hx rfl (hb hby at_181) rfl) ?_
          show Done _ p e below s _ _ (T86.setTop (mkF m 183 #[.val (.int aa), .val (.int bb), .val (.int pp), .val (.int qq), .val (.int fl), .val (.int (1 : Int32)), .val (.int (2 : Int32)), .val (.int c0), .val (.int c1), .val (.int d0), .val (.int d1), .val (.ref b74), .val (.ref b76), .val (.int (((pp &&& (2147483647 : Int32)) % (65535 : Int32)) + (1 : Int32))), .val (.int q2), .unset, .unset, .unset, .unset] [(.int (((pp &&& (2147483647 : Int32)) % (65535 : Int32)) + (1 : Int32))), (.ref b81), (.ref b79), (.ref b79)]))
          have f90 := (f89.keep K86q)
          have f91 := ((F_m_host_b79.ext E81).keep K86q (ninS ne_b79_b81 nin0))
          have f92 := ((F_m_port_b79.ext E81).keep K86q (ninS ne_b79_b81 nin0))
          have f93 := (f87.keep K86q (allS n0_b81 all0))
          refine Done.callI X86 hx hZ rfl hown (wAt hw 35 rfl) (wAt hw 36 rfl) (wAt hw 5 rfl) (wAt hw 37 rfl) (by decide) (rmA l Z a0 hw [] b79 b81 t86 kb86 ([c0] : List Int32) 0 (1 : Int32) ((((([c0] : List Int32)).map (fun c => c.toInt8.toInt32))).map Value.int) (((pp &&& (2147483647 : Int32)) % (65535 : Int32)) + (1 : Int32)) z T86.heap n0 Zs86 f90 f91 f92 n0_b79 Eq86 Vq86 Cq86 Aq86 hcd86 hbd86 (Nat.le_of_ble_eq_true rfl) ne_b79_b81 ne_b79_t86 f93 SC hz (Nat.succ_ne_zero _) hport1.1 hport1.2) (fun _ _ => trivial) rfl (g := (mkF m 183 #[.val (.int aa), .val (.int bb), .val (.int pp), .val (.int qq), .val (.int fl), .val (.int (1 : Int32)), .val (.int (2 : Int32)), .val (.int c0), .val (.int c1), .val (.int d0), .val (.int d1), .val (.ref b74), .val (.ref b76), .val (.int (((pp &&& (2147483647 : Int32)) % (65535 : Int32)) + (1 : Int32))), .val (.int q2), .unset, .unset, .unset, .unset] [(.int (((pp &&& (2147483647 : Int32)) % (65535 : Int32)) + (1 : Int32))), (.ref b81), (.ref b79), (.ref b79)])) rfl (by rw [hml]; rfl) b79 [(.ref b81), (.int (((pp &&& (2147483647 : Int32)) % (65535 : Int32)) + (1 : Int32)))] [(.ref b79)] 1 (lenOf pd_5 rfl) rfl rfl (by show 2 * 0 + _ ≤ _; exact Nat.le_of_eq rfl) (hb hby at_183) (by decide) (by decide) (by decide) (by decide) ?_
          intro T94 v94 L94 X94 q94
          obtain ⟨rfl, Nq94, K94q, f94_0, f94_1, f94_2⟩ := q94
          have N94 := Fr.app N86 Nq94
          have Zs94 := Nat.le_trans Zs86 K94q.1
          show Done _ p e below s _ _ (T94.setTop (mkF m 186 #[.val (.int aa), .val (.int bb), .val (.int pp), .val (.int qq), .val (.int fl), .val (.int (1 : Int32)), .val (.int (2 : Int32)), .val (.int c0), .val (.int c1), .val (.int d0), .val (.int d1), .val (.ref b74), .val (.ref b76), .val (.int (((pp &&& (2147483647 : Int32)) % (65535 : Int32)) + (1 : Int32))), .val (.int q2), .unset, .unset, .unset, .unset] [(.ref b79)]))
          refine Done.step (fun _ => XS.astore X94.here hx rfl (hb hby at_186) rfl rfl (l' := #[.val (.int aa), .val (.int bb), .val (.int pp), .val (.int qq), .val (.int fl), .val (.int (1 : Int32)), .val (.int (2 : Int32)), .val (.int c0), .val (.int c1), .val (.int d0), .val (.int d1), .val (.ref b74), .val (.ref b76), .val (.int (((pp &&& (2147483647 : Int32)) % (65535 : Int32)) + (1 : Int32))), .val (.int q2), .val (.ref b79), .unset, .unset, .unset]) rfl) ?_
          show Done _ p e below s _ _ (T94.setTop (mkF m 188 #[.val (.int aa), .val (.int bb), .val (.int pp), .val (.int qq), .val (.int fl), .val (.int (1 : Int32)), .val (.int (2 : Int32)), .val (.int c0), .val (.int c1), .val (.int d0), .val (.int d1), .val (.ref b74), .val (.ref b76), .val (.int (((pp &&& (2147483647 : Int32)) % (65535 : Int32)) + (1 : Int32))), .val (.int q2), .val (.ref b79), .unset, .unset, .unset] []))
          obtain ⟨T95, h95, X95, e95, E95, A95, D95, -, st95⟩ := newO X94 hx hZ hown (wAt hw 3 rfl) (wAt hw 4 rfl) (wAt hw 5 rfl) rfl (g := (mkF m 188 #[.val (.int aa), .val (.int bb), .val (.int pp), .val (.int qq), .val (.int fl), .val (.int (1 : Int32)), .val (.int (2 : Int32)), .val (.int c0), .val (.int c1), .val (.int d0), .val (.int d1), .val (.ref b74), .val (.ref b76), .val (.int (((pp &&& (2147483647 : Int32)) % (65535 : Int32)) + (1 : Int32))), .val (.int q2), .val (.ref b79), .unset, .unset, .unset] [])) rfl (hb hby at_188) (by decide) (by decide)
          obtain ⟨b95, g95⟩ : ∃ z, z = T94.heap.size := ⟨_, rfl⟩
          rw [← g95] at A95 D95 st95
          have f96 := ((f85.keep K86q (ninS ne_b74_b81 nin0)).keep K94q (ninS ne_b74_b79 nin0))
          have ne_b74_b95 : b74 ≠ b95 := by rw [g95]; exact Nat.ne_of_lt f96.lt
          have f97 := ((f88.keep K86q (ninS ne_b76_b81 nin0)).keep K94q (ninS ne_b76_b79 nin0))
          have ne_b76_b95 : b76 ≠ b95 := by rw [g95]; exact Nat.ne_of_lt f97.lt
          have ne_b79_b95 : b79 ≠ b95 := by rw [g95]; exact Nat.ne_of_lt f94_0.lt
          have f98 := (Eq86.keep K94q)
          have ne_b81_b95 : b81 ≠ b95 := by rw [g95]; exact Nat.ne_of_lt f98.lt
          have f99 := (Aq86.keep K94q (ninS (Ne.symm ne_b79_t86) nin0))
          have ne_t86_b95 : t86 ≠ b95 := by rw [g95]; exact Nat.ne_of_lt f99.lt
          have n0_b95 : n0 ≤ b95 := by rw [g95]; exact Zs94
          have Zs95 := Nat.le_trans Zs94 E95.1
          have F_m_host_b95 : Fld Z h95 b95 "com/example/minho/minho/core/Address" "m_host" "Ljava/lang/String;" .null := D95 (Or.inr (wAt hw 46 rfl)) (ty := (.object "java/lang/String")) (by decide)
          have F_m_port_b95 : Fld Z h95 b95 "com/example/minho/minho/core/Address" "m_port" "I" (.int (0 : Int32)) := D95 (Or.inr (wAt hw 48 rfl)) (ty := .int) (by decide)
          refine Done.step st95 ?_
          show Done _ p e below s _ _ (T95.setTop (mkF m 191 #[.val (.int aa), .val (.int bb), .val (.int pp), .val (.int qq), .val (.int fl), .val (.int (1 : Int32)), .val (.int (2 : Int32)), .val (.int c0), .val (.int c1), .val (.int d0), .val (.int d1), .val (.ref b74), .val (.ref b76), .val (.int (((pp &&& (2147483647 : Int32)) % (65535 : Int32)) + (1 : Int32))), .val (.int q2), .val (.ref b79), .unset, .unset, .unset] [(.ref b95)]))
          refine Done.step (fun _ => XS.dup X95.here hx rfl (hb hby at_191) rfl rfl) ?_
          show Done _ p e below s _ _ (T95.setTop (mkF m 192 #[.val (.int aa), .val (.int bb), .val (.int pp), .val (.int qq), .val (.int fl), .val (.int (1 : Int32)), .val (.int (2 : Int32)), .val (.int c0), .val (.int c1), .val (.int d0), .val (.int d1), .val (.ref b74), .val (.ref b76), .val (.int (((pp &&& (2147483647 : Int32)) % (65535 : Int32)) + (1 : Int32))), .val (.int q2), .val (.ref b79), .unset, .unset, .unset] [(.ref b95), (.ref b95)]))
          obtain ⟨T100, h100, X100, e100, E100, A100, D100, -, st100⟩ := newO X95 hx hZ hown (wAt hw 6 rfl) (wAt hw 7 rfl) (wAt hw 8 rfl) e95 (g := (mkF m 192 #[.val (.int aa), .val (.int bb), .val (.int pp), .val (.int qq), .val (.int fl), .val (.int (1 : Int32)), .val (.int (2 : Int32)), .val (.int c0), .val (.int c1), .val (.int d0), .val (.int d1), .val (.ref b74), .val (.ref b76), .val (.int (((pp &&& (2147483647 : Int32)) % (65535 : Int32)) + (1 : Int32))), .val (.int q2), .val (.ref b79), .unset, .unset, .unset] [(.ref b95), (.ref b95)])) rfl (hb hby at_192) (by decide) (by decide)
          obtain ⟨b100, g100⟩ : ∃ z, z = h95.size := ⟨_, rfl⟩
          rw [← g100] at A100 D100 st100
          have f101 := (f96.ext E95)
          have ne_b74_b100 : b74 ≠ b100 := by rw [g100]; exact Nat.ne_of_lt f101.lt
          have f102 := (f97.ext E95)
          have ne_b76_b100 : b76 ≠ b100 := by rw [g100]; exact Nat.ne_of_lt f102.lt
          have f103 := (f94_0.ext E95)
          have ne_b79_b100 : b79 ≠ b100 := by rw [g100]; exact Nat.ne_of_lt f103.lt
          have f104 := (f98.ext E95)
          have ne_b81_b100 : b81 ≠ b100 := by rw [g100]; exact Nat.ne_of_lt f104.lt
          have f105 := (f99.ext E95)
          have ne_t86_b100 : t86 ≠ b100 := by rw [g100]; exact Nat.ne_of_lt f105.lt
          have ne_b95_b100 : b95 ≠ b100 := by rw [g100]; exact Nat.ne_of_lt A95.lt
          have n0_b100 : n0 ≤ b100 := by rw [g100]; exact Zs95
          have Zs100 := Nat.le_trans Zs95 E100.1
          have F_coder_b100 : Fld Z h100 b100 "java/lang/String" "coder" "B" (.int (0 : Int32)) := D100 (Or.inr (wAt hw 32 rfl)) (ty := .byte) (by decide)
          have F_value_b100 : Fld Z h100 b100 "java/lang/String" "value" "[B" .null := D100 (Or.inr (wAt hw 34 rfl)) (ty := (.array .byte)) (by decide)
          refine Done.step st100 ?_
          show Done _ p e below s _ _ (T100.setTop (mkF m 195 #[.val (.int aa), .val (.int bb), .val (.int pp), .val (.int qq), .val (.int fl), .val (.int (1 : Int32)), .val (.int (2 : Int32)), .val (.int c0), .val (.int c1), .val (.int d0), .val (.int d1), .val (.ref b74), .val (.ref b76), .val (.int (((pp &&& (2147483647 : Int32)) % (65535 : Int32)) + (1 : Int32))), .val (.int q2), .val (.ref b79), .unset, .unset, .unset] [(.ref b100), (.ref b95), (.ref b95)]))
          refine Done.step (fun _ => XS.dup X100.here hx rfl (hb hby at_195) rfl rfl) ?_
          show Done _ p e below s _ _ (T100.setTop (mkF m 196 #[.val (.int aa), .val (.int bb), .val (.int pp), .val (.int qq), .val (.int fl), .val (.int (1 : Int32)), .val (.int (2 : Int32)), .val (.int c0), .val (.int c1), .val (.int d0), .val (.int d1), .val (.ref b74), .val (.ref b76), .val (.int (((pp &&& (2147483647 : Int32)) % (65535 : Int32)) + (1 : Int32))), .val (.int q2), .val (.ref b79), .unset, .unset, .unset] [(.ref b100), (.ref b100), (.ref b95), (.ref b95)]))
          refine Done.step (fun _ => XS.aload X100.here hx rfl (hb hby at_196) rfl rfl) ?_
          show Done _ p e below s _ _ (T100.setTop (mkF m 198 #[.val (.int aa), .val (.int bb), .val (.int pp), .val (.int qq), .val (.int fl), .val (.int (1 : Int32)), .val (.int (2 : Int32)), .val (.int c0), .val (.int c1), .val (.int d0), .val (.int d1), .val (.ref b74), .val (.ref b76), .val (.int (((pp &&& (2147483647 : Int32)) % (65535 : Int32)) + (1 : Int32))), .val (.int q2), .val (.ref b79), .unset, .unset, .unset] [(.ref b76), (.ref b100), (.ref b100), (.ref b95), (.ref b95)]))
          have f107 := (f102.ext E100)
          have Vs106 : Arv Z h100 b76 k76 .char (2 : Int32) (([nar .char d0, nar .char d1] : List Int32).map Value.int) (.int (0 : Int32)) := f107
          rw [own_nar bd0.1 (own_up [d0] (by intro c hc; cases List.mem_singleton.mp hc; exact bd0) _ (List.mem_singleton.mpr rfl)).2, own_nar bd1.1 (own_up [d1] (by intro c hc; cases List.mem_singleton.mp hc; exact bd1) _ (List.mem_singleton.mpr rfl)).2] at Vs106
          have hp108 : ∀ c ∈ ([d0, d1] : List Int32), ¬ c < 0 ∧ ¬ (255 : Int32) < c := (by intro c hc; simp only [List.mem_cons, List.not_mem_nil, or_false] at hc; rcases hc with rfl | rfl <;> assumption)
          have hbd108 := own_up _ hp108
          have f109 := (((f93.keep K94q (allS n0_b79 all0)).ext E95).ext E100)
          refine Done.callIB (nc := 1) (ns := 2) X100 hx hZ rfl hown (wAt hw 9 rfl) (wAt hw 10 rfl) (wAt hw 11 rfl) (by decide) (StrChars.Road.backV (W := 3) hZ (own_hws hw) (kI := 4) (wAt hw 7 rfl) (cs := ([d0, d1] : List Int32)) (bs := ((([d0, d1] : List Int32)).map (fun c => c.toInt8.toInt32))) (n := 2) n0_b100 Zs100 A100 F_value_b100 F_coder_b100 Vs106 (SC.ext f109.2) hz rfl rfl (by decide) (by decide) hp108 rfl (by decide) (by decide)) e100 (g := (mkF m 198 #[.val (.int aa), .val (.int bb), .val (.int pp), .val (.int qq), .val (.int fl), .val (.int (1 : Int32)), .val (.int (2 : Int32)), .val (.int c0), .val (.int c1), .val (.int d0), .val (.int d1), .val (.ref b74), .val (.ref b76), .val (.int (((pp &&& (2147483647 : Int32)) % (65535 : Int32)) + (1 : Int32))), .val (.int q2), .val (.ref b79), .unset, .unset, .unset] [(.ref b76), (.ref b100), (.ref b100), (.ref b95), (.ref b95)])) rfl (by rw [hml]; rfl) b100 [(.ref b76)] [(.ref b100), (.ref b95), (.ref b95)] (lenOf pd_4 rfl) rfl rfl (by show 2 * 0 + _ ≤ _; exact Nat.le_of_eq rfl) (hb hby at_198) (by decide) (by decide) ?_
          intro T108 v108 L108 X108 q108
          obtain ⟨rfl, Nq108, K108q, Eq108, Cq108, t108, kb108, n0_t108, szt108, net108, Vq108, Aq108⟩ := q108
          have f110 := (f101.ext E100)
          have ne_b74_t108 : b74 ≠ t108 := Nat.ne_of_lt (Nat.lt_of_lt_of_le f110.lt szt108)
          have ne_b76_t108 : b76 ≠ t108 := Nat.ne_of_lt (Nat.lt_of_lt_of_le f107.lt szt108)
          have f111 := (f103.ext E100)
          have ne_b79_t108 : b79 ≠ t108 := Nat.ne_of_lt (Nat.lt_of_lt_of_le f111.lt szt108)
          have f112 := (f104.ext E100)
          have ne_b81_t108 : b81 ≠ t108 := Nat.ne_of_lt (Nat.lt_of_lt_of_le f112.lt szt108)
          have f113 := (f105.ext E100)
          have ne_t86_t108 : t86 ≠ t108 := Nat.ne_of_lt (Nat.lt_of_lt_of_le f113.lt szt108)
          have f114 := (A95.ext E100)
          have ne_b95_t108 : b95 ≠ t108 := Nat.ne_of_lt (Nat.lt_of_lt_of_le f114.lt szt108)
          have ne_b100_t108 : b100 ≠ t108 := Ne.symm net108
          have N108 := Fr.app N94 Nq108
          have Zs108 := Nat.le_trans Zs100 K108q.1
          have hcd108 : StrChars.Road.CodA ([d0, d1] : List Int32) 0 (2 : Int32) ((((([d0, d1] : List Int32)).map (fun c => c.toInt8.toInt32))).map Value.int) := StrChars.Road.codOf (n := 2) rfl (fun c hc => (hp108 c hc).2)
          show Done _ p e below s _ _ (T108.setTop (mkF m 201 #[.val (.int aa), .val (.int bb), .val (.int pp), .val (.int qq), .val (.int fl), .val (.int (1 : Int32)), .val (.int (2 : Int32)), .val (.int c0), .val (.int c1), .val (.int d0), .val (.int d1), .val (.ref b74), .val (.ref b76), .val (.int (((pp &&& (2147483647 : Int32)) % (65535 : Int32)) + (1 : Int32))), .val (.int q2), .val (.ref b79), .unset, .unset, .unset] [(.ref b100), (.ref b95), (.ref b95)]))
          refine Done.step (fun _ => XS.iload X108.here hx rfl (hb hby at_201) rfl) ?_
          show Done _ p e below s _ _ (T108.setTop (mkF m 203 #[.val (.int aa), .val (.int bb), .val (.int pp), .val (.int qq), .val (.int fl), .val (.int (1 : Int32)), .val (.int (2 : Int32)), .val (.int c0), .val (.int c1), .val (.int d0), .val (.int d1), .val (.ref b74), .val (.ref b76), .val (.int (((pp &&& (2147483647 : Int32)) % (65535 : Int32)) + (1 : Int32))), .val (.int q2), .val (.ref b79), .unset, .unset, .unset] [(.int q2), (.ref b100), (.ref b95), (.ref b95)]))
          have f115 := (f114.keep K108q)
          have f116 := ((F_m_host_b95.ext E100).keep K108q (ninS ne_b95_b100 nin0))
          have f117 := ((F_m_port_b95.ext E100).keep K108q (ninS ne_b95_b100 nin0))
          have f118 := (f109.keep K108q (allS n0_b100 all0))
          refine Done.callI X108 hx hZ rfl hown (wAt hw 35 rfl) (wAt hw 36 rfl) (wAt hw 5 rfl) (wAt hw 37 rfl) (by decide) (rmA l Z a0 hw [] b95 b100 t108 kb108 ([d0, d1] : List Int32) 0 (2 : Int32) ((((([d0, d1] : List Int32)).map (fun c => c.toInt8.toInt32))).map Value.int) q2 z T108.heap n0 Zs108 f115 f116 f117 n0_b95 Eq108 Vq108 Cq108 Aq108 hcd108 hbd108 (Nat.le_of_ble_eq_true rfl) ne_b95_b100 ne_b95_t108 f118 SC hz (Nat.succ_ne_zero _) hq1 hq2) (fun _ _ => trivial) rfl (g := (mkF m 203 #[.val (.int aa), .val (.int bb), .val (.int pp), .val (.int qq), .val (.int fl), .val (.int (1 : Int32)), .val (.int (2 : Int32)), .val (.int c0), .val (.int c1), .val (.int d0), .val (.int d1), .val (.ref b74), .val (.ref b76), .val (.int (((pp &&& (2147483647 : Int32)) % (65535 : Int32)) + (1 : Int32))), .val (.int q2), .val (.ref b79), .unset, .unset, .unset] [(.int q2), (.ref b100), (.ref b95), (.ref b95)])) rfl (by rw [hml]; rfl) b95 [(.ref b100), (.int q2)] [(.ref b95)] 1 (lenOf pd_5 rfl) rfl rfl (by show 2 * 0 + _ ≤ _; exact Nat.le_of_eq rfl) (hb hby at_203) (by decide) (by decide) (by decide) (by decide) ?_
          intro T119 v119 L119 X119 q119
          obtain ⟨rfl, Nq119, K119q, f119_0, f119_1, f119_2⟩ := q119
          have N119 := Fr.app N108 Nq119
          have Zs119 := Nat.le_trans Zs108 K119q.1
          show Done _ p e below s _ _ (T119.setTop (mkF m 206 #[.val (.int aa), .val (.int bb), .val (.int pp), .val (.int qq), .val (.int fl), .val (.int (1 : Int32)), .val (.int (2 : Int32)), .val (.int c0), .val (.int c1), .val (.int d0), .val (.int d1), .val (.ref b74), .val (.ref b76), .val (.int (((pp &&& (2147483647 : Int32)) % (65535 : Int32)) + (1 : Int32))), .val (.int q2), .val (.ref b79), .unset, .unset, .unset] [(.ref b95)]))
          refine Done.step (fun _ => XS.astore X119.here hx rfl (hb hby at_206) rfl rfl (l' := #[.val (.int aa), .val (.int bb), .val (.int pp), .val (.int qq), .val (.int fl), .val (.int (1 : Int32)), .val (.int (2 : Int32)), .val (.int c0), .val (.int c1), .val (.int d0), .val (.int d1), .val (.ref b74), .val (.ref b76), .val (.int (((pp &&& (2147483647 : Int32)) % (65535 : Int32)) + (1 : Int32))), .val (.int q2), .val (.ref b79), .val (.ref b95), .unset, .unset]) rfl) ?_
          show Done _ p e below s _ _ (T119.setTop (mkF m 208 #[.val (.int aa), .val (.int bb), .val (.int pp), .val (.int qq), .val (.int fl), .val (.int (1 : Int32)), .val (.int (2 : Int32)), .val (.int c0), .val (.int c1), .val (.int d0), .val (.int d1), .val (.ref b74), .val (.ref b76), .val (.int (((pp &&& (2147483647 : Int32)) % (65535 : Int32)) + (1 : Int32))), .val (.int q2), .val (.ref b79), .val (.ref b95), .unset, .unset] []))
          have K249 : ∀ (ex : Int32) (hex : ex = bP (([d0, d1] : List Int32) = ([c0] : List Int32) ∧ q2 = (((pp &&& (2147483647 : Int32)) % (65535 : Int32)) + (1 : Int32)))), Done FrameEnd p e below s room_1 (LawQ n0) (T119.setTop (mkF m 249 #[.val (.int aa), .val (.int bb), .val (.int pp), .val (.int qq), .val (.int fl), .val (.int (1 : Int32)), .val (.int (2 : Int32)), .val (.int c0), .val (.int c1), .val (.int d0), .val (.int d1), .val (.ref b74), .val (.ref b76), .val (.int (((pp &&& (2147483647 : Int32)) % (65535 : Int32)) + (1 : Int32))), .val (.int q2), .val (.ref b79), .val (.ref b95), .val (.int ex), .unset] [])) := by
            intro ex hex
            show Done _ p e below s _ _ (T119.setTop (mkF m 249 #[.val (.int aa), .val (.int bb), .val (.int pp), .val (.int qq), .val (.int fl), .val (.int (1 : Int32)), .val (.int (2 : Int32)), .val (.int c0), .val (.int c1), .val (.int d0), .val (.int d1), .val (.ref b74), .val (.ref b76), .val (.int (((pp &&& (2147483647 : Int32)) % (65535 : Int32)) + (1 : Int32))), .val (.int q2), .val (.ref b79), .val (.ref b95), .val (.int ex), .unset] []))
            refine Done.step (fun _ => XS.iload X119.here hx rfl (hb hby at_249) rfl) ?_
            show Done _ p e below s _ _ (T119.setTop (mkF m 251 #[.val (.int aa), .val (.int bb), .val (.int pp), .val (.int qq), .val (.int fl), .val (.int (1 : Int32)), .val (.int (2 : Int32)), .val (.int c0), .val (.int c1), .val (.int d0), .val (.int d1), .val (.ref b74), .val (.ref b76), .val (.int (((pp &&& (2147483647 : Int32)) % (65535 : Int32)) + (1 : Int32))), .val (.int q2), .val (.ref b79), .val (.ref b95), .val (.int ex), .unset] [(.int (((pp &&& (2147483647 : Int32)) % (65535 : Int32)) + (1 : Int32)))]))
            have f121 := (f118.keep K119q (allS n0_b95 all0))
            refine Done.callS X119 hx hZ hown (wAt hw 49 rfl) (wAt hw 50 rfl) (wAt hw 51 rfl) (wAt hw 52 rfl) (by decide) (rmV l Z a0 hw [] (((pp &&& (2147483647 : Int32)) % (65535 : Int32)) + (1 : Int32)) cA cl T119.heap n0 Zs119 f121 SH SK CA hsz hel hport1.1) (fun _ _ => trivial) rfl (g := (mkF m 251 #[.val (.int aa), .val (.int bb), .val (.int pp), .val (.int qq), .val (.int fl), .val (.int (1 : Int32)), .val (.int (2 : Int32)), .val (.int c0), .val (.int c1), .val (.int d0), .val (.int d1), .val (.ref b74), .val (.ref b76), .val (.int (((pp &&& (2147483647 : Int32)) % (65535 : Int32)) + (1 : Int32))), .val (.int q2), .val (.ref b79), .val (.ref b95), .val (.int ex), .unset] [(.int (((pp &&& (2147483647 : Int32)) % (65535 : Int32)) + (1 : Int32)))])) rfl (by rw [hml]; rfl) [(.int (((pp &&& (2147483647 : Int32)) % (65535 : Int32)) + (1 : Int32)))] [] 0 (lenOf pd_6 rfl) rfl rfl (by show 2 * 0 + _ ≤ _; exact Nat.le_of_eq rfl) (hb hby at_251) (by decide) (by decide) (by decide) (by decide) ?_
            intro T120 v120 L120 X120 q120
            obtain ⟨rI, rfl, Nq120, K120q, Er120⟩ := q120
            have N120 := Fr.app N119 Nq120
            have Zs120 := Nat.le_trans Zs119 K120q.1
            show Done _ p e below s _ _ (T120.setTop (mkF m 254 #[.val (.int aa), .val (.int bb), .val (.int pp), .val (.int qq), .val (.int fl), .val (.int (1 : Int32)), .val (.int (2 : Int32)), .val (.int c0), .val (.int c1), .val (.int d0), .val (.int d1), .val (.ref b74), .val (.ref b76), .val (.int (((pp &&& (2147483647 : Int32)) % (65535 : Int32)) + (1 : Int32))), .val (.int q2), .val (.ref b79), .val (.ref b95), .val (.int ex), .unset] [(.ref rI)]))
            refine Done.step (fun _ => XS.astore X120.here hx rfl (hb hby at_254) rfl rfl (l' := #[.val (.int aa), .val (.int bb), .val (.int pp), .val (.int qq), .val (.int fl), .val (.int (1 : Int32)), .val (.int (2 : Int32)), .val (.int c0), .val (.int c1), .val (.int d0), .val (.int d1), .val (.ref b74), .val (.ref b76), .val (.int (((pp &&& (2147483647 : Int32)) % (65535 : Int32)) + (1 : Int32))), .val (.int q2), .val (.ref b79), .val (.ref b95), .val (.int ex), .val (.ref rI)]) rfl) ?_
            show Done _ p e below s _ _ (T120.setTop (mkF m 256 #[.val (.int aa), .val (.int bb), .val (.int pp), .val (.int qq), .val (.int fl), .val (.int (1 : Int32)), .val (.int (2 : Int32)), .val (.int c0), .val (.int c1), .val (.int d0), .val (.int d1), .val (.ref b74), .val (.ref b76), .val (.int (((pp &&& (2147483647 : Int32)) % (65535 : Int32)) + (1 : Int32))), .val (.int q2), .val (.ref b79), .val (.ref b95), .val (.int ex), .val (.ref rI)] []))
            refine Done.step (fun _ => XS.aload X120.here hx rfl (hb hby at_256) rfl rfl) ?_
            show Done _ p e below s _ _ (T120.setTop (mkF m 258 #[.val (.int aa), .val (.int bb), .val (.int pp), .val (.int qq), .val (.int fl), .val (.int (1 : Int32)), .val (.int (2 : Int32)), .val (.int c0), .val (.int c1), .val (.int d0), .val (.int d1), .val (.ref b74), .val (.ref b76), .val (.int (((pp &&& (2147483647 : Int32)) % (65535 : Int32)) + (1 : Int32))), .val (.int q2), .val (.ref b79), .val (.ref b95), .val (.int ex), .val (.ref rI)] [(.ref b79)]))
            refine Done.step (fun _ => XS.aload X120.here hx rfl (hb hby at_258) rfl rfl) ?_
            show Done _ p e below s _ _ (T120.setTop (mkF m 260 #[.val (.int aa), .val (.int bb), .val (.int pp), .val (.int qq), .val (.int fl), .val (.int (1 : Int32)), .val (.int (2 : Int32)), .val (.int c0), .val (.int c1), .val (.int d0), .val (.int d1), .val (.ref b74), .val (.ref b76), .val (.int (((pp &&& (2147483647 : Int32)) % (65535 : Int32)) + (1 : Int32))), .val (.int q2), .val (.ref b79), .val (.ref b95), .val (.int ex), .val (.ref rI)] [(.ref b95), (.ref b79)]))
            have f122 := (((f112.keep K108q).keep K119q).keep K120q)
            have f123 := ((((((Vq86.keep K94q (ninS (Ne.symm ne_b79_b81) nin0)).ext E95).ext E100).keep K108q (ninS ne_b81_b100 nin0)).keep K119q (ninS ne_b81_b95 nin0)).keep K120q nin0)
            have f124 := ((((((Cq86.keep K94q (ninS (Ne.symm ne_b79_b81) nin0)).ext E95).ext E100).keep K108q (ninS ne_b81_b100 nin0)).keep K119q (ninS ne_b81_b95 nin0)).keep K120q nin0)
            have f125 := (((f113.keep K108q (ninS ne_t86_b100 nin0)).keep K119q (ninS ne_t86_b95 nin0)).keep K120q nin0)
            have f126 := ((Eq108.keep K119q).keep K120q)
            have f127 := ((Vq108.keep K119q (ninS (Ne.symm ne_b95_b100) nin0)).keep K120q nin0)
            have f128 := ((Cq108.keep K119q (ninS (Ne.symm ne_b95_b100) nin0)).keep K120q nin0)
            have f129 := ((Aq108.keep K119q (ninS (Ne.symm ne_b95_t108) nin0)).keep K120q nin0)
            have f130 := (f119_0.keep K120q)
            have f131 := (((((f94_1.ext E95).ext E100).keep K108q (ninS ne_b79_b100 nin0)).keep K119q (ninS ne_b79_b95 nin0)).keep K120q nin0)
            have f132 := (((((f94_2.ext E95).ext E100).keep K108q (ninS ne_b79_b100 nin0)).keep K119q (ninS ne_b79_b95 nin0)).keep K120q nin0)
            have f133 := (f119_1.keep K120q nin0)
            have f134 := (f119_2.keep K120q nin0)
            have f135 := (f121.keep K120q all0)
            have f137 := (((f111.keep K108q).keep K119q).keep K120q)
            refine Done.callVP X120 hx hZ (C := "com/example/minho/minho/core/Address") hown (wAt hw 56 rfl) (wAt hw 57 rfl) (notFace_of_selects (args := #[]) (mvT hZ (wAt hw 59 rfl))) (wAt hw 59 rfl) (wAt hw 58 rfl) (wAt hw 5 rfl) (wAt hw 60 rfl) (by decide) (rmE l Z a0 hw [] b79 b95 b81 t86 kb86 ([c0] : List Int32) 0 (1 : Int32) ((((([c0] : List Int32)).map (fun c => c.toInt8.toInt32))).map Value.int) b100 t108 kb108 ([d0, d1] : List Int32) 0 (2 : Int32) ((((([d0, d1] : List Int32)).map (fun c => c.toInt8.toInt32))).map Value.int) (((pp &&& (2147483647 : Int32)) % (65535 : Int32)) + (1 : Int32)) q2 ex z T120.heap n0 Zs120 f130 f131 f132 f133 f134 f122 f123 f124 f125 hcd86 hbd86 (Nat.le_of_ble_eq_true rfl) f126 f127 f128 f129 hcd108 hbd108 (Nat.le_of_ble_eq_true rfl) f135 SC hz hex) rfl f137 (g := (mkF m 260 #[.val (.int aa), .val (.int bb), .val (.int pp), .val (.int qq), .val (.int fl), .val (.int (1 : Int32)), .val (.int (2 : Int32)), .val (.int c0), .val (.int c1), .val (.int d0), .val (.int d1), .val (.ref b74), .val (.ref b76), .val (.int (((pp &&& (2147483647 : Int32)) % (65535 : Int32)) + (1 : Int32))), .val (.int q2), .val (.ref b79), .val (.ref b95), .val (.int ex), .val (.ref rI)] [(.ref b95), (.ref b79)])) rfl (by rw [hml]; rfl) [(.ref b95)] [] 0 (lenOf pd_1 rfl) rfl rfl (by show 2 * 0 + _ ≤ _; exact Nat.le_of_eq rfl) (hb hby at_260) (by decide) (by decide) (by decide) (by decide) rfl rfl ?_
            intro T136 X136 e136
            show Done _ p e below s _ _ (T136.setTop (mkF m 263 #[.val (.int aa), .val (.int bb), .val (.int pp), .val (.int qq), .val (.int fl), .val (.int (1 : Int32)), .val (.int (2 : Int32)), .val (.int c0), .val (.int c1), .val (.int d0), .val (.int d1), .val (.ref b74), .val (.ref b76), .val (.int (((pp &&& (2147483647 : Int32)) % (65535 : Int32)) + (1 : Int32))), .val (.int q2), .val (.ref b79), .val (.ref b95), .val (.int ex), .val (.ref rI)] [(.int ex)]))
            refine Done.step (fun _ => XS.iload X136.here hx rfl (hb hby at_263) rfl) ?_
            show Done _ p e below s _ _ (T136.setTop (mkF m 265 #[.val (.int aa), .val (.int bb), .val (.int pp), .val (.int qq), .val (.int fl), .val (.int (1 : Int32)), .val (.int (2 : Int32)), .val (.int c0), .val (.int c1), .val (.int d0), .val (.int d1), .val (.ref b74), .val (.ref b76), .val (.int (((pp &&& (2147483647 : Int32)) % (65535 : Int32)) + (1 : Int32))), .val (.int q2), .val (.ref b79), .val (.ref b95), .val (.int ex), .val (.ref rI)] [(.int ex), (.int ex)]))
            refine Done.step (fun _ => XS.icmpNo X136.here hx rfl (hb hby at_265) rfl (XT.ii_ne_f rfl)) ?_
            show Done _ p e below s _ _ (T136.setTop (mkF m 268 #[.val (.int aa), .val (.int bb), .val (.int pp), .val (.int qq), .val (.int fl), .val (.int (1 : Int32)), .val (.int (2 : Int32)), .val (.int c0), .val (.int c1), .val (.int d0), .val (.int d1), .val (.ref b74), .val (.ref b76), .val (.int (((pp &&& (2147483647 : Int32)) % (65535 : Int32)) + (1 : Int32))), .val (.int q2), .val (.ref b79), .val (.ref b95), .val (.int ex), .val (.ref rI)] []))
            refine Done.step (fun _ => XS.aload X136.here hx rfl (hb hby at_268) rfl rfl) ?_
            show Done _ p e below s _ _ (T136.setTop (mkF m 270 #[.val (.int aa), .val (.int bb), .val (.int pp), .val (.int qq), .val (.int fl), .val (.int (1 : Int32)), .val (.int (2 : Int32)), .val (.int c0), .val (.int c1), .val (.int d0), .val (.int d1), .val (.ref b74), .val (.ref b76), .val (.int (((pp &&& (2147483647 : Int32)) % (65535 : Int32)) + (1 : Int32))), .val (.int q2), .val (.ref b79), .val (.ref b95), .val (.int ex), .val (.ref rI)] [(.ref b95)]))
            refine Done.step (fun _ => XS.aload X136.here hx rfl (hb hby at_270) rfl rfl) ?_
            show Done _ p e below s _ _ (T136.setTop (mkF m 272 #[.val (.int aa), .val (.int bb), .val (.int pp), .val (.int qq), .val (.int fl), .val (.int (1 : Int32)), .val (.int (2 : Int32)), .val (.int c0), .val (.int c1), .val (.int d0), .val (.int d1), .val (.ref b74), .val (.ref b76), .val (.int (((pp &&& (2147483647 : Int32)) % (65535 : Int32)) + (1 : Int32))), .val (.int q2), .val (.ref b79), .val (.ref b95), .val (.int ex), .val (.ref rI)] [(.ref b79), (.ref b95)]))
            refine Done.callVP X136 hx hZ (C := "com/example/minho/minho/core/Address") hown (wAt hw 56 rfl) (wAt hw 57 rfl) (notFace_of_selects (args := #[]) (mvT hZ (wAt hw 59 rfl))) (wAt hw 59 rfl) (wAt hw 58 rfl) (wAt hw 5 rfl) (wAt hw 60 rfl) (by decide) (rmE l Z a0 hw [] b95 b79 b100 t108 kb108 ([d0, d1] : List Int32) 0 (2 : Int32) ((((([d0, d1] : List Int32)).map (fun c => c.toInt8.toInt32))).map Value.int) b81 t86 kb86 ([c0] : List Int32) 0 (1 : Int32) ((((([c0] : List Int32)).map (fun c => c.toInt8.toInt32))).map Value.int) q2 (((pp &&& (2147483647 : Int32)) % (65535 : Int32)) + (1 : Int32)) ex z T120.heap n0 Zs120 f137 f133 f134 f131 f132 f126 f127 f128 f129 hcd108 hbd108 (Nat.le_of_ble_eq_true rfl) f122 f123 f124 f125 hcd86 hbd86 (Nat.le_of_ble_eq_true rfl) f135 SC hz (hex.trans (own_bpc _ _ _ _))) e136 f130 (g := (mkF m 272 #[.val (.int aa), .val (.int bb), .val (.int pp), .val (.int qq), .val (.int fl), .val (.int (1 : Int32)), .val (.int (2 : Int32)), .val (.int c0), .val (.int c1), .val (.int d0), .val (.int d1), .val (.ref b74), .val (.ref b76), .val (.int (((pp &&& (2147483647 : Int32)) % (65535 : Int32)) + (1 : Int32))), .val (.int q2), .val (.ref b79), .val (.ref b95), .val (.int ex), .val (.ref rI)] [(.ref b79), (.ref b95)])) rfl (by rw [hml]; rfl) [(.ref b79)] [] 0 (lenOf pd_1 rfl) rfl rfl (by show 2 * 0 + _ ≤ _; exact Nat.le_of_eq rfl) (hb hby at_272) (by decide) (by decide) (by decide) (by decide) rfl rfl ?_
            intro T138 X138 e138
            show Done _ p e below s _ _ (T138.setTop (mkF m 275 #[.val (.int aa), .val (.int bb), .val (.int pp), .val (.int qq), .val (.int fl), .val (.int (1 : Int32)), .val (.int (2 : Int32)), .val (.int c0), .val (.int c1), .val (.int d0), .val (.int d1), .val (.ref b74), .val (.ref b76), .val (.int (((pp &&& (2147483647 : Int32)) % (65535 : Int32)) + (1 : Int32))), .val (.int q2), .val (.ref b79), .val (.ref b95), .val (.int ex), .val (.ref rI)] [(.int ex)]))
            refine Done.step (fun _ => XS.iload X138.here hx rfl (hb hby at_275) rfl) ?_
            show Done _ p e below s _ _ (T138.setTop (mkF m 277 #[.val (.int aa), .val (.int bb), .val (.int pp), .val (.int qq), .val (.int fl), .val (.int (1 : Int32)), .val (.int (2 : Int32)), .val (.int c0), .val (.int c1), .val (.int d0), .val (.int d1), .val (.ref b74), .val (.ref b76), .val (.int (((pp &&& (2147483647 : Int32)) % (65535 : Int32)) + (1 : Int32))), .val (.int q2), .val (.ref b79), .val (.ref b95), .val (.int ex), .val (.ref rI)] [(.int ex), (.int ex)]))
            refine Done.step (fun _ => XS.icmpNo X138.here hx rfl (hb hby at_277) rfl (XT.ii_ne_f rfl)) ?_
            show Done _ p e below s _ _ (T138.setTop (mkF m 280 #[.val (.int aa), .val (.int bb), .val (.int pp), .val (.int qq), .val (.int fl), .val (.int (1 : Int32)), .val (.int (2 : Int32)), .val (.int c0), .val (.int c1), .val (.int d0), .val (.int d1), .val (.ref b74), .val (.ref b76), .val (.int (((pp &&& (2147483647 : Int32)) % (65535 : Int32)) + (1 : Int32))), .val (.int q2), .val (.ref b79), .val (.ref b95), .val (.int ex), .val (.ref rI)] []))
            refine Done.step (fun _ => XS.aload X138.here hx rfl (hb hby at_280) rfl rfl) ?_
            show Done _ p e below s _ _ (T138.setTop (mkF m 282 #[.val (.int aa), .val (.int bb), .val (.int pp), .val (.int qq), .val (.int fl), .val (.int (1 : Int32)), .val (.int (2 : Int32)), .val (.int c0), .val (.int c1), .val (.int d0), .val (.int d1), .val (.ref b74), .val (.ref b76), .val (.int (((pp &&& (2147483647 : Int32)) % (65535 : Int32)) + (1 : Int32))), .val (.int q2), .val (.ref b79), .val (.ref b95), .val (.int ex), .val (.ref rI)] [(.ref b79)]))
            refine Done.step (fun _ => XS.aload X138.here hx rfl (hb hby at_282) rfl rfl) ?_
            show Done _ p e below s _ _ (T138.setTop (mkF m 284 #[.val (.int aa), .val (.int bb), .val (.int pp), .val (.int qq), .val (.int fl), .val (.int (1 : Int32)), .val (.int (2 : Int32)), .val (.int c0), .val (.int c1), .val (.int d0), .val (.int d1), .val (.ref b74), .val (.ref b76), .val (.int (((pp &&& (2147483647 : Int32)) % (65535 : Int32)) + (1 : Int32))), .val (.int q2), .val (.ref b79), .val (.ref b95), .val (.int ex), .val (.ref rI)] [(.ref b79), (.ref b79)]))
            refine Done.callVP X138 hx hZ (C := "com/example/minho/minho/core/Address") hown (wAt hw 56 rfl) (wAt hw 57 rfl) (notFace_of_selects (args := #[]) (mvT hZ (wAt hw 59 rfl))) (wAt hw 59 rfl) (wAt hw 58 rfl) (wAt hw 5 rfl) (wAt hw 60 rfl) (by decide) (rmE l Z a0 hw [] b79 b79 b81 t86 kb86 ([c0] : List Int32) 0 (1 : Int32) ((((([c0] : List Int32)).map (fun c => c.toInt8.toInt32))).map Value.int) b81 t86 kb86 ([c0] : List Int32) 0 (1 : Int32) ((((([c0] : List Int32)).map (fun c => c.toInt8.toInt32))).map Value.int) (((pp &&& (2147483647 : Int32)) % (65535 : Int32)) + (1 : Int32)) (((pp &&& (2147483647 : Int32)) % (65535 : Int32)) + (1 : Int32)) (1 : Int32) z T120.heap n0 Zs120 f137 f131 f132 f131 f132 f122 f123 f124 f125 hcd86 hbd86 (Nat.le_of_ble_eq_true rfl) f122 f123 f124 f125 hcd86 hbd86 (Nat.le_of_ble_eq_true rfl) f135 SC hz (bP_t ⟨rfl, rfl⟩).symm) e138 f137 (g := (mkF m 284 #[.val (.int aa), .val (.int bb), .val (.int pp), .val (.int qq), .val (.int fl), .val (.int (1 : Int32)), .val (.int (2 : Int32)), .val (.int c0), .val (.int c1), .val (.int d0), .val (.int d1), .val (.ref b74), .val (.ref b76), .val (.int (((pp &&& (2147483647 : Int32)) % (65535 : Int32)) + (1 : Int32))), .val (.int q2), .val (.ref b79), .val (.ref b95), .val (.int ex), .val (.ref rI)] [(.ref b79), (.ref b79)])) rfl (by rw [hml]; rfl) [(.ref b79)] [] 0 (lenOf pd_1 rfl) rfl rfl (by show 2 * 0 + _ ≤ _; exact Nat.le_of_eq rfl) (hb hby at_284) (by decide) (by decide) (by decide) (by decide) rfl rfl ?_
            intro T139 X139 e139
            show Done _ p e below s _ _ (T139.setTop (mkF m 287 #[.val (.int aa), .val (.int bb), .val (.int pp), .val (.int qq), .val (.int fl), .val (.int (1 : Int32)), .val (.int (2 : Int32)), .val (.int c0), .val (.int c1), .val (.int d0), .val (.int d1), .val (.ref b74), .val (.ref b76), .val (.int (((pp &&& (2147483647 : Int32)) % (65535 : Int32)) + (1 : Int32))), .val (.int q2), .val (.ref b79), .val (.ref b95), .val (.int ex), .val (.ref rI)] [(.int (1 : Int32))]))
            refine Done.step (fun _ => XS.ifNo X139.here hx rfl (hb hby at_287) rfl (XT.i0_eq_f (by decide))) ?_
            show Done _ p e below s _ _ (T139.setTop (mkF m 290 #[.val (.int aa), .val (.int bb), .val (.int pp), .val (.int qq), .val (.int fl), .val (.int (1 : Int32)), .val (.int (2 : Int32)), .val (.int c0), .val (.int c1), .val (.int d0), .val (.int d1), .val (.ref b74), .val (.ref b76), .val (.int (((pp &&& (2147483647 : Int32)) % (65535 : Int32)) + (1 : Int32))), .val (.int q2), .val (.ref b79), .val (.ref b95), .val (.int ex), .val (.ref rI)] []))
            refine Done.step (fun _ => XS.aload X139.here hx rfl (hb hby at_290) rfl rfl) ?_
            show Done _ p e below s _ _ (T139.setTop (mkF m 292 #[.val (.int aa), .val (.int bb), .val (.int pp), .val (.int qq), .val (.int fl), .val (.int (1 : Int32)), .val (.int (2 : Int32)), .val (.int c0), .val (.int c1), .val (.int d0), .val (.int d1), .val (.ref b74), .val (.ref b76), .val (.int (((pp &&& (2147483647 : Int32)) % (65535 : Int32)) + (1 : Int32))), .val (.int q2), .val (.ref b79), .val (.ref b95), .val (.int ex), .val (.ref rI)] [(.ref b79)]))
            refine Done.step (fun _ => XS.aconstNull X139.here hx rfl (hb hby at_292)) ?_
            show Done _ p e below s _ _ (T139.setTop (mkF m 293 #[.val (.int aa), .val (.int bb), .val (.int pp), .val (.int qq), .val (.int fl), .val (.int (1 : Int32)), .val (.int (2 : Int32)), .val (.int c0), .val (.int c1), .val (.int d0), .val (.int d1), .val (.ref b74), .val (.ref b76), .val (.int (((pp &&& (2147483647 : Int32)) % (65535 : Int32)) + (1 : Int32))), .val (.int q2), .val (.ref b79), .val (.ref b95), .val (.int ex), .val (.ref rI)] [.null, (.ref b79)]))
            refine Done.callVP X139 hx hZ (C := "com/example/minho/minho/core/Address") hown (wAt hw 56 rfl) (wAt hw 57 rfl) (notFace_of_selects (args := #[]) (mvT hZ (wAt hw 59 rfl))) (wAt hw 59 rfl) (wAt hw 58 rfl) (wAt hw 5 rfl) (wAt hw 60 rfl) (by decide) (rmN l Z a0 hw [] b79 T120.heap n0 Zs120) e139 f137 (g := (mkF m 293 #[.val (.int aa), .val (.int bb), .val (.int pp), .val (.int qq), .val (.int fl), .val (.int (1 : Int32)), .val (.int (2 : Int32)), .val (.int c0), .val (.int c1), .val (.int d0), .val (.int d1), .val (.ref b74), .val (.ref b76), .val (.int (((pp &&& (2147483647 : Int32)) % (65535 : Int32)) + (1 : Int32))), .val (.int q2), .val (.ref b79), .val (.ref b95), .val (.int ex), .val (.ref rI)] [.null, (.ref b79)])) rfl (by rw [hml]; rfl) [.null] [] 0 (lenOf pd_1 rfl) rfl rfl (by show 2 * 0 + _ ≤ _; exact Nat.le_of_eq rfl) (hb hby at_293) (by decide) (by decide) (by decide) (by decide) rfl rfl ?_
            intro T140 X140 e140
            show Done _ p e below s _ _ (T140.setTop (mkF m 296 #[.val (.int aa), .val (.int bb), .val (.int pp), .val (.int qq), .val (.int fl), .val (.int (1 : Int32)), .val (.int (2 : Int32)), .val (.int c0), .val (.int c1), .val (.int d0), .val (.int d1), .val (.ref b74), .val (.ref b76), .val (.int (((pp &&& (2147483647 : Int32)) % (65535 : Int32)) + (1 : Int32))), .val (.int q2), .val (.ref b79), .val (.ref b95), .val (.int ex), .val (.ref rI)] [(.int (0 : Int32))]))
            refine Done.step (fun _ => XS.ifNo X140.here hx rfl (hb hby at_296) rfl (XT.i0_ne_f rfl)) ?_
            show Done _ p e below s _ _ (T140.setTop (mkF m 299 #[.val (.int aa), .val (.int bb), .val (.int pp), .val (.int qq), .val (.int fl), .val (.int (1 : Int32)), .val (.int (2 : Int32)), .val (.int c0), .val (.int c1), .val (.int d0), .val (.int d1), .val (.ref b74), .val (.ref b76), .val (.int (((pp &&& (2147483647 : Int32)) % (65535 : Int32)) + (1 : Int32))), .val (.int q2), .val (.ref b79), .val (.ref b95), .val (.int ex), .val (.ref rI)] []))
            refine Done.step (fun _ => XS.aload X140.here hx rfl (hb hby at_299) rfl rfl) ?_
            show Done _ p e below s _ _ (T140.setTop (mkF m 301 #[.val (.int aa), .val (.int bb), .val (.int pp), .val (.int qq), .val (.int fl), .val (.int (1 : Int32)), .val (.int (2 : Int32)), .val (.int c0), .val (.int c1), .val (.int d0), .val (.int d1), .val (.ref b74), .val (.ref b76), .val (.int (((pp &&& (2147483647 : Int32)) % (65535 : Int32)) + (1 : Int32))), .val (.int q2), .val (.ref b79), .val (.ref b95), .val (.int ex), .val (.ref rI)] [(.ref b79)]))
            refine Done.step (fun _ => XS.aload X140.here hx rfl (hb hby at_301) rfl rfl) ?_
            show Done _ p e below s _ _ (T140.setTop (mkF m 303 #[.val (.int aa), .val (.int bb), .val (.int pp), .val (.int qq), .val (.int fl), .val (.int (1 : Int32)), .val (.int (2 : Int32)), .val (.int c0), .val (.int c1), .val (.int d0), .val (.int d1), .val (.ref b74), .val (.ref b76), .val (.int (((pp &&& (2147483647 : Int32)) % (65535 : Int32)) + (1 : Int32))), .val (.int q2), .val (.ref b79), .val (.ref b95), .val (.int ex), .val (.ref rI)] [(.ref rI), (.ref b79)]))
            refine Done.callVP X140 hx hZ (C := "com/example/minho/minho/core/Address") hown (wAt hw 56 rfl) (wAt hw 57 rfl) (notFace_of_selects (args := #[]) (mvT hZ (wAt hw 59 rfl))) (wAt hw 59 rfl) (wAt hw 58 rfl) (wAt hw 5 rfl) (wAt hw 60 rfl) (by decide) (rmI l Z a0 hw [] b79 rI T120.heap n0 Zs120 Er120) e140 f137 (g := (mkF m 303 #[.val (.int aa), .val (.int bb), .val (.int pp), .val (.int qq), .val (.int fl), .val (.int (1 : Int32)), .val (.int (2 : Int32)), .val (.int c0), .val (.int c1), .val (.int d0), .val (.int d1), .val (.ref b74), .val (.ref b76), .val (.int (((pp &&& (2147483647 : Int32)) % (65535 : Int32)) + (1 : Int32))), .val (.int q2), .val (.ref b79), .val (.ref b95), .val (.int ex), .val (.ref rI)] [(.ref rI), (.ref b79)])) rfl (by rw [hml]; rfl) [(.ref rI)] [] 0 (lenOf pd_1 rfl) rfl rfl (by show 2 * 0 + _ ≤ _; exact Nat.le_of_eq rfl) (hb hby at_303) (by decide) (by decide) (by decide) (by decide) rfl rfl ?_
            intro T141 X141 e141
            show Done _ p e below s _ _ (T141.setTop (mkF m 306 #[.val (.int aa), .val (.int bb), .val (.int pp), .val (.int qq), .val (.int fl), .val (.int (1 : Int32)), .val (.int (2 : Int32)), .val (.int c0), .val (.int c1), .val (.int d0), .val (.int d1), .val (.ref b74), .val (.ref b76), .val (.int (((pp &&& (2147483647 : Int32)) % (65535 : Int32)) + (1 : Int32))), .val (.int q2), .val (.ref b79), .val (.ref b95), .val (.int ex), .val (.ref rI)] [(.int (0 : Int32))]))
            refine Done.step (fun _ => XS.ifNo X141.here hx rfl (hb hby at_306) rfl (XT.i0_ne_f rfl)) ?_
            show Done _ p e below s _ _ (T141.setTop (mkF m 309 #[.val (.int aa), .val (.int bb), .val (.int pp), .val (.int qq), .val (.int fl), .val (.int (1 : Int32)), .val (.int (2 : Int32)), .val (.int c0), .val (.int c1), .val (.int d0), .val (.int d1), .val (.ref b74), .val (.ref b76), .val (.int (((pp &&& (2147483647 : Int32)) % (65535 : Int32)) + (1 : Int32))), .val (.int q2), .val (.ref b79), .val (.ref b95), .val (.int ex), .val (.ref rI)] []))
            refine Done.step (fun _ => XT.iconstV X141.here hx rfl (1 : Int32) (hb hby at_309) (by decide)) ?_
            show Done _ p e below s _ _ (T141.setTop (mkF m 310 #[.val (.int aa), .val (.int bb), .val (.int pp), .val (.int qq), .val (.int fl), .val (.int (1 : Int32)), .val (.int (2 : Int32)), .val (.int c0), .val (.int c1), .val (.int d0), .val (.int d1), .val (.ref b74), .val (.ref b76), .val (.int (((pp &&& (2147483647 : Int32)) % (65535 : Int32)) + (1 : Int32))), .val (.int q2), .val (.ref b79), .val (.ref b95), .val (.int ex), .val (.ref rI)] [(.int (1 : Int32))]))
            refine Done.step (fun _ => XS.goto X141.here hx rfl (pc0 := 310) (pc' := 314) rfl (hb hby at_310) (by decide) (by decide)) ?_
            show Done _ p e below s _ _ (T141.setTop (mkF m 314 #[.val (.int aa), .val (.int bb), .val (.int pp), .val (.int qq), .val (.int fl), .val (.int (1 : Int32)), .val (.int (2 : Int32)), .val (.int c0), .val (.int c1), .val (.int d0), .val (.int d1), .val (.ref b74), .val (.ref b76), .val (.int (((pp &&& (2147483647 : Int32)) % (65535 : Int32)) + (1 : Int32))), .val (.int q2), .val (.ref b79), .val (.ref b95), .val (.int ex), .val (.ref rI)] [(.int (1 : Int32))]))
            exact Done.retN (leavesF X141 hlk (by decide) (by decide)) X141 hx (t := .boolean) hret (by simp) (hb hby at_314) ⟨rfl, N120⟩
          refine Done.step (fun _ => XS.iload X119.here hx rfl (hb hby at_208) rfl) ?_
          show Done _ p e below s _ _ (T119.setTop (mkF m 210 #[.val (.int aa), .val (.int bb), .val (.int pp), .val (.int qq), .val (.int fl), .val (.int (1 : Int32)), .val (.int (2 : Int32)), .val (.int c0), .val (.int c1), .val (.int d0), .val (.int d1), .val (.ref b74), .val (.ref b76), .val (.int (((pp &&& (2147483647 : Int32)) % (65535 : Int32)) + (1 : Int32))), .val (.int q2), .val (.ref b79), .val (.ref b95), .unset, .unset] [(.int (1 : Int32))]))
          refine Done.step (fun _ => XS.iload X119.here hx rfl (hb hby at_210) rfl) ?_
          show Done _ p e below s _ _ (T119.setTop (mkF m 212 #[.val (.int aa), .val (.int bb), .val (.int pp), .val (.int qq), .val (.int fl), .val (.int (1 : Int32)), .val (.int (2 : Int32)), .val (.int c0), .val (.int c1), .val (.int d0), .val (.int d1), .val (.ref b74), .val (.ref b76), .val (.int (((pp &&& (2147483647 : Int32)) % (65535 : Int32)) + (1 : Int32))), .val (.int q2), .val (.ref b79), .val (.ref b95), .unset, .unset] [(.int (2 : Int32)), (.int (1 : Int32))]))
          refine Done.step (fun _ => XS.icmpYes X119.here hx rfl (pc0 := 212) (pc' := 246) rfl (hb hby at_212) rfl (XT.ii_ne_t (by decide)) (by decide) (by decide)) ?_
          show Done _ p e below s _ _ (T119.setTop (mkF m 246 #[.val (.int aa), .val (.int bb), .val (.int pp), .val (.int qq), .val (.int fl), .val (.int (1 : Int32)), .val (.int (2 : Int32)), .val (.int c0), .val (.int c1), .val (.int d0), .val (.int d1), .val (.ref b74), .val (.ref b76), .val (.int (((pp &&& (2147483647 : Int32)) % (65535 : Int32)) + (1 : Int32))), .val (.int q2), .val (.ref b79), .val (.ref b95), .unset, .unset] []))
          refine Done.step (fun _ => XT.iconstV X119.here hx rfl (0 : Int32) (hb hby at_246) (by decide)) ?_
          show Done _ p e below s _ _ (T119.setTop (mkF m 247 #[.val (.int aa), .val (.int bb), .val (.int pp), .val (.int qq), .val (.int fl), .val (.int (1 : Int32)), .val (.int (2 : Int32)), .val (.int c0), .val (.int c1), .val (.int d0), .val (.int d1), .val (.ref b74), .val (.ref b76), .val (.int (((pp &&& (2147483647 : Int32)) % (65535 : Int32)) + (1 : Int32))), .val (.int q2), .val (.ref b79), .val (.ref b95), .unset, .unset] [(.int (0 : Int32))]))
          refine Done.step (fun _ => XS.istore X119.here hx rfl (hb hby at_247) rfl (l' := #[.val (.int aa), .val (.int bb), .val (.int pp), .val (.int qq), .val (.int fl), .val (.int (1 : Int32)), .val (.int (2 : Int32)), .val (.int c0), .val (.int c1), .val (.int d0), .val (.int d1), .val (.ref b74), .val (.ref b76), .val (.int (((pp &&& (2147483647 : Int32)) % (65535 : Int32)) + (1 : Int32))), .val (.int q2), .val (.ref b79), .val (.ref b95), .val (.int (0 : Int32)), .unset]) rfl) ?_
          show Done _ p e below s _ _ (T119.setTop (mkF m 249 #[.val (.int aa), .val (.int bb), .val (.int pp), .val (.int qq), .val (.int fl), .val (.int (1 : Int32)), .val (.int (2 : Int32)), .val (.int c0), .val (.int c1), .val (.int d0), .val (.int d1), .val (.ref b74), .val (.ref b76), .val (.int (((pp &&& (2147483647 : Int32)) % (65535 : Int32)) + (1 : Int32))), .val (.int q2), .val (.ref b79), .val (.ref b95), .val (.int (0 : Int32)), .unset] []))
          exact K249 (0 : Int32) (bP_f (fun q => (own_l12 c0 d0 d1) q.1)).symm
        refine Done.step (fun _ => XS.iload X78.here hx rfl (hb hby at_143) rfl) ?_
        show Done _ p e below s _ _ (T78.setTop (mkF m 145 #[.val (.int aa), .val (.int bb), .val (.int pp), .val (.int qq), .val (.int fl), .val (.int (1 : Int32)), .val (.int (2 : Int32)), .val (.int c0), .val (.int c1), .val (.int d0), .val (.int d1), .val (.ref b74), .val (.ref b76), .val (.int (((pp &&& (2147483647 : Int32)) % (65535 : Int32)) + (1 : Int32))), .unset, .unset, .unset, .unset, .unset] [(.int fl)]))
        refine Done.step (fun _ => XT.iconstV X78.here hx rfl (4 : Int32) (hb hby at_145) (by decide)) ?_
        show Done _ p e below s _ _ (T78.setTop (mkF m 146 #[.val (.int aa), .val (.int bb), .val (.int pp), .val (.int qq), .val (.int fl), .val (.int (1 : Int32)), .val (.int (2 : Int32)), .val (.int c0), .val (.int c1), .val (.int d0), .val (.int d1), .val (.ref b74), .val (.ref b76), .val (.int (((pp &&& (2147483647 : Int32)) % (65535 : Int32)) + (1 : Int32))), .unset, .unset, .unset, .unset, .unset] [(.int (4 : Int32)), (.int fl)]))
        refine Done.step (fun _ => XT.iushr X78.here hx rfl (hb hby at_146) rfl) ?_
        show Done _ p e below s _ _ (T78.setTop (mkF m 147 #[.val (.int aa), .val (.int bb), .val (.int pp), .val (.int qq), .val (.int fl), .val (.int (1 : Int32)), .val (.int (2 : Int32)), .val (.int c0), .val (.int c1), .val (.int d0), .val (.int d1), .val (.ref b74), .val (.ref b76), .val (.int (((pp &&& (2147483647 : Int32)) % (65535 : Int32)) + (1 : Int32))), .unset, .unset, .unset, .unset, .unset] [(.int ((fl.toUInt32 >>> ((4 : Int32) &&& 31).toUInt32).toInt32))]))
        refine Done.step (fun _ => XT.iconstV X78.here hx rfl (1 : Int32) (hb hby at_147) (by decide)) ?_
        show Done _ p e below s _ _ (T78.setTop (mkF m 148 #[.val (.int aa), .val (.int bb), .val (.int pp), .val (.int qq), .val (.int fl), .val (.int (1 : Int32)), .val (.int (2 : Int32)), .val (.int c0), .val (.int c1), .val (.int d0), .val (.int d1), .val (.ref b74), .val (.ref b76), .val (.int (((pp &&& (2147483647 : Int32)) % (65535 : Int32)) + (1 : Int32))), .unset, .unset, .unset, .unset, .unset] [(.int (1 : Int32)), (.int ((fl.toUInt32 >>> ((4 : Int32) &&& 31).toUInt32).toInt32))]))
        refine Done.step (fun _ => XS.iand X78.here hx rfl (hb hby at_148) rfl) ?_
        show Done _ p e below s _ _ (T78.setTop (mkF m 149 #[.val (.int aa), .val (.int bb), .val (.int pp), .val (.int qq), .val (.int fl), .val (.int (1 : Int32)), .val (.int (2 : Int32)), .val (.int c0), .val (.int c1), .val (.int d0), .val (.int d1), .val (.ref b74), .val (.ref b76), .val (.int (((pp &&& (2147483647 : Int32)) % (65535 : Int32)) + (1 : Int32))), .unset, .unset, .unset, .unset, .unset] [(.int (((fl.toUInt32 >>> ((4 : Int32) &&& 31).toUInt32).toInt32) &&& (1 : Int32)))]))
        by_cases hc142 : (((fl.toUInt32 >>> ((4 : Int32) &&& 31).toUInt32).toInt32) &&& (1 : Int32)) = (0 : Int32)
        · refine Done.step (fun _ => XS.ifYes X78.here hx rfl (pc0 := 149) (pc' := 157) rfl (hb hby at_149) rfl (XT.i0_eq_t hc142) (by decide) (by decide)) ?_
          show Done _ p e below s _ _ (T78.setTop (mkF m 157 #[.val (.int aa), .val (.int bb), .val (.int pp), .val (.int qq), .val (.int fl), .val (.int (1 : Int32)), .val (.int (2 : Int32)), .val (.int c0), .val (.int c1), .val (.int d0), .val (.int d1), .val (.ref b74), .val (.ref b76), .val (.int (((pp &&& (2147483647 : Int32)) % (65535 : Int32)) + (1 : Int32))), .unset, .unset, .unset, .unset, .unset] []))
          refine Done.step (fun _ => XS.iloadN X78.here hx rfl (hb hby at_157) rfl) ?_
          show Done _ p e below s _ _ (T78.setTop (mkF m 158 #[.val (.int aa), .val (.int bb), .val (.int pp), .val (.int qq), .val (.int fl), .val (.int (1 : Int32)), .val (.int (2 : Int32)), .val (.int c0), .val (.int c1), .val (.int d0), .val (.int d1), .val (.ref b74), .val (.ref b76), .val (.int (((pp &&& (2147483647 : Int32)) % (65535 : Int32)) + (1 : Int32))), .unset, .unset, .unset, .unset, .unset] [(.int qq)]))
          refine Done.step (fun _ => Stand.ldcI X78 hx hown (mvT hZ (wAt hw 1 rfl)) (g := (mkF m 158 #[.val (.int aa), .val (.int bb), .val (.int pp), .val (.int qq), .val (.int fl), .val (.int (1 : Int32)), .val (.int (2 : Int32)), .val (.int c0), .val (.int c1), .val (.int d0), .val (.int d1), .val (.ref b74), .val (.ref b76), .val (.int (((pp &&& (2147483647 : Int32)) % (65535 : Int32)) + (1 : Int32))), .unset, .unset, .unset, .unset, .unset] [(.int qq)])) rfl (hb hby at_158)) ?_
          show Done _ p e below s _ _ (T78.setTop (mkF m 160 #[.val (.int aa), .val (.int bb), .val (.int pp), .val (.int qq), .val (.int fl), .val (.int (1 : Int32)), .val (.int (2 : Int32)), .val (.int c0), .val (.int c1), .val (.int d0), .val (.int d1), .val (.ref b74), .val (.ref b76), .val (.int (((pp &&& (2147483647 : Int32)) % (65535 : Int32)) + (1 : Int32))), .unset, .unset, .unset, .unset, .unset] [(.int (2147483647 : Int32)), (.int qq)]))
          refine Done.step (fun _ => XS.iand X78.here hx rfl (hb hby at_160) rfl) ?_
          show Done _ p e below s _ _ (T78.setTop (mkF m 161 #[.val (.int aa), .val (.int bb), .val (.int pp), .val (.int qq), .val (.int fl), .val (.int (1 : Int32)), .val (.int (2 : Int32)), .val (.int c0), .val (.int c1), .val (.int d0), .val (.int d1), .val (.ref b74), .val (.ref b76), .val (.int (((pp &&& (2147483647 : Int32)) % (65535 : Int32)) + (1 : Int32))), .unset, .unset, .unset, .unset, .unset] [(.int (qq &&& (2147483647 : Int32)))]))
          refine Done.step (fun _ => Stand.ldcI X78 hx hown (mvT hZ (wAt hw 2 rfl)) (g := (mkF m 161 #[.val (.int aa), .val (.int bb), .val (.int pp), .val (.int qq), .val (.int fl), .val (.int (1 : Int32)), .val (.int (2 : Int32)), .val (.int c0), .val (.int c1), .val (.int d0), .val (.int d1), .val (.ref b74), .val (.ref b76), .val (.int (((pp &&& (2147483647 : Int32)) % (65535 : Int32)) + (1 : Int32))), .unset, .unset, .unset, .unset, .unset] [(.int (qq &&& (2147483647 : Int32)))])) rfl (hb hby at_161)) ?_
          show Done _ p e below s _ _ (T78.setTop (mkF m 163 #[.val (.int aa), .val (.int bb), .val (.int pp), .val (.int qq), .val (.int fl), .val (.int (1 : Int32)), .val (.int (2 : Int32)), .val (.int c0), .val (.int c1), .val (.int d0), .val (.int d1), .val (.ref b74), .val (.ref b76), .val (.int (((pp &&& (2147483647 : Int32)) % (65535 : Int32)) + (1 : Int32))), .unset, .unset, .unset, .unset, .unset] [(.int (65535 : Int32)), (.int (qq &&& (2147483647 : Int32)))]))
          refine Done.step (fun _ => iremM X78 hx rfl (hb hby at_163) rfl (by decide)) ?_
          show Done _ p e below s _ _ (T78.setTop (mkF m 164 #[.val (.int aa), .val (.int bb), .val (.int pp), .val (.int qq), .val (.int fl), .val (.int (1 : Int32)), .val (.int (2 : Int32)), .val (.int c0), .val (.int c1), .val (.int d0), .val (.int d1), .val (.ref b74), .val (.ref b76), .val (.int (((pp &&& (2147483647 : Int32)) % (65535 : Int32)) + (1 : Int32))), .unset, .unset, .unset, .unset, .unset] [(.int ((qq &&& (2147483647 : Int32)) % (65535 : Int32)))]))
          refine Done.step (fun _ => XT.iconstV X78.here hx rfl (1 : Int32) (hb hby at_164) (by decide)) ?_
          show Done _ p e below s _ _ (T78.setTop (mkF m 165 #[.val (.int aa), .val (.int bb), .val (.int pp), .val (.int qq), .val (.int fl), .val (.int (1 : Int32)), .val (.int (2 : Int32)), .val (.int c0), .val (.int c1), .val (.int d0), .val (.int d1), .val (.ref b74), .val (.ref b76), .val (.int (((pp &&& (2147483647 : Int32)) % (65535 : Int32)) + (1 : Int32))), .unset, .unset, .unset, .unset, .unset] [(.int (1 : Int32)), (.int ((qq &&& (2147483647 : Int32)) % (65535 : Int32)))]))
          refine Done.step (fun _ => XS.iadd X78.here hx rfl (hb hby at_165) rfl) ?_
          show Done _ p e below s _ _ (T78.setTop (mkF m 166 #[.val (.int aa), .val (.int bb), .val (.int pp), .val (.int qq), .val (.int fl), .val (.int (1 : Int32)), .val (.int (2 : Int32)), .val (.int c0), .val (.int c1), .val (.int d0), .val (.int d1), .val (.ref b74), .val (.ref b76), .val (.int (((pp &&& (2147483647 : Int32)) % (65535 : Int32)) + (1 : Int32))), .unset, .unset, .unset, .unset, .unset] [(.int (((qq &&& (2147483647 : Int32)) % (65535 : Int32)) + (1 : Int32)))]))
          refine Done.step (fun _ => XS.istore X78.here hx rfl (hb hby at_166) rfl (l' := #[.val (.int aa), .val (.int bb), .val (.int pp), .val (.int qq), .val (.int fl), .val (.int (1 : Int32)), .val (.int (2 : Int32)), .val (.int c0), .val (.int c1), .val (.int d0), .val (.int d1), .val (.ref b74), .val (.ref b76), .val (.int (((pp &&& (2147483647 : Int32)) % (65535 : Int32)) + (1 : Int32))), .val (.int (((qq &&& (2147483647 : Int32)) % (65535 : Int32)) + (1 : Int32))), .unset, .unset, .unset, .unset]) rfl) ?_
          show Done _ p e below s _ _ (T78.setTop (mkF m 168 #[.val (.int aa), .val (.int bb), .val (.int pp), .val (.int qq), .val (.int fl), .val (.int (1 : Int32)), .val (.int (2 : Int32)), .val (.int c0), .val (.int c1), .val (.int d0), .val (.int d1), .val (.ref b74), .val (.ref b76), .val (.int (((pp &&& (2147483647 : Int32)) % (65535 : Int32)) + (1 : Int32))), .val (.int (((qq &&& (2147483647 : Int32)) % (65535 : Int32)) + (1 : Int32))), .unset, .unset, .unset, .unset] []))
          exact K168 (((qq &&& (2147483647 : Int32)) % (65535 : Int32)) + (1 : Int32)) (own_port _).1 (own_port _).2
        · refine Done.step (fun _ => XS.ifNo X78.here hx rfl (hb hby at_149) rfl (XT.i0_eq_f hc142)) ?_
          show Done _ p e below s _ _ (T78.setTop (mkF m 152 #[.val (.int aa), .val (.int bb), .val (.int pp), .val (.int qq), .val (.int fl), .val (.int (1 : Int32)), .val (.int (2 : Int32)), .val (.int c0), .val (.int c1), .val (.int d0), .val (.int d1), .val (.ref b74), .val (.ref b76), .val (.int (((pp &&& (2147483647 : Int32)) % (65535 : Int32)) + (1 : Int32))), .unset, .unset, .unset, .unset, .unset] []))
          refine Done.step (fun _ => XS.iload X78.here hx rfl (hb hby at_152) rfl) ?_
          show Done _ p e below s _ _ (T78.setTop (mkF m 154 #[.val (.int aa), .val (.int bb), .val (.int pp), .val (.int qq), .val (.int fl), .val (.int (1 : Int32)), .val (.int (2 : Int32)), .val (.int c0), .val (.int c1), .val (.int d0), .val (.int d1), .val (.ref b74), .val (.ref b76), .val (.int (((pp &&& (2147483647 : Int32)) % (65535 : Int32)) + (1 : Int32))), .unset, .unset, .unset, .unset, .unset] [(.int (((pp &&& (2147483647 : Int32)) % (65535 : Int32)) + (1 : Int32)))]))
          refine Done.step (fun _ => XS.goto X78.here hx rfl (pc0 := 154) (pc' := 166) rfl (hb hby at_154) (by decide) (by decide)) ?_
          show Done _ p e below s _ _ (T78.setTop (mkF m 166 #[.val (.int aa), .val (.int bb), .val (.int pp), .val (.int qq), .val (.int fl), .val (.int (1 : Int32)), .val (.int (2 : Int32)), .val (.int c0), .val (.int c1), .val (.int d0), .val (.int d1), .val (.ref b74), .val (.ref b76), .val (.int (((pp &&& (2147483647 : Int32)) % (65535 : Int32)) + (1 : Int32))), .unset, .unset, .unset, .unset, .unset] [(.int (((pp &&& (2147483647 : Int32)) % (65535 : Int32)) + (1 : Int32)))]))
          refine Done.step (fun _ => XS.istore X78.here hx rfl (hb hby at_166) rfl (l' := #[.val (.int aa), .val (.int bb), .val (.int pp), .val (.int qq), .val (.int fl), .val (.int (1 : Int32)), .val (.int (2 : Int32)), .val (.int c0), .val (.int c1), .val (.int d0), .val (.int d1), .val (.ref b74), .val (.ref b76), .val (.int (((pp &&& (2147483647 : Int32)) % (65535 : Int32)) + (1 : Int32))), .val (.int (((pp &&& (2147483647 : Int32)) % (65535 : Int32)) + (1 : Int32))), .unset, .unset, .unset, .unset]) rfl) ?_
          show Done _ p e below s _ _ (T78.setTop (mkF m 168 #[.val (.int aa), .val (.int bb), .val (.int pp), .val (.int qq), .val (.int fl), .val (.int (1 : Int32)), .val (.int (2 : Int32)), .val (.int c0), .val (.int c1), .val (.int d0), .val (.int d1), .val (.ref b74), .val (.ref b76), .val (.int (((pp &&& (2147483647 : Int32)) % (65535 : Int32)) + (1 : Int32))), .val (.int (((pp &&& (2147483647 : Int32)) % (65535 : Int32)) + (1 : Int32))), .unset, .unset, .unset, .unset] []))
          exact K168 (((pp &&& (2147483647 : Int32)) % (65535 : Int32)) + (1 : Int32)) (own_port _).1 (own_port _).2
      refine Done.step (fun _ => XS.iload X0.here hx rfl (hb hby at_37) rfl) ?_
      show Done _ p e below s _ _ (T0.setTop (mkF m 39 #[.val (.int aa), .val (.int bb), .val (.int pp), .val (.int qq), .val (.int fl), .val (.int (1 : Int32)), .val (.int (2 : Int32)), .val (.int ((aa &&& (255 : Int32)).toUInt32.toUInt16.toUInt32.toInt32)), .val (.int ((((aa.toUInt32 >>> ((8 : Int32) &&& 31).toUInt32).toInt32) &&& (255 : Int32)).toUInt32.toUInt16.toUInt32.toInt32)), .unset, .unset, .unset, .unset, .unset, .unset, .unset, .unset, .unset, .unset] [(.int fl)]))
      refine Done.step (fun _ => XT.iconstV X0.here hx rfl (2 : Int32) (hb hby at_39) (by decide)) ?_
      show Done _ p e below s _ _ (T0.setTop (mkF m 40 #[.val (.int aa), .val (.int bb), .val (.int pp), .val (.int qq), .val (.int fl), .val (.int (1 : Int32)), .val (.int (2 : Int32)), .val (.int ((aa &&& (255 : Int32)).toUInt32.toUInt16.toUInt32.toInt32)), .val (.int ((((aa.toUInt32 >>> ((8 : Int32) &&& 31).toUInt32).toInt32) &&& (255 : Int32)).toUInt32.toUInt16.toUInt32.toInt32)), .unset, .unset, .unset, .unset, .unset, .unset, .unset, .unset, .unset, .unset] [(.int (2 : Int32)), (.int fl)]))
      refine Done.step (fun _ => XT.iushr X0.here hx rfl (hb hby at_40) rfl) ?_
      show Done _ p e below s _ _ (T0.setTop (mkF m 41 #[.val (.int aa), .val (.int bb), .val (.int pp), .val (.int qq), .val (.int fl), .val (.int (1 : Int32)), .val (.int (2 : Int32)), .val (.int ((aa &&& (255 : Int32)).toUInt32.toUInt16.toUInt32.toInt32)), .val (.int ((((aa.toUInt32 >>> ((8 : Int32) &&& 31).toUInt32).toInt32) &&& (255 : Int32)).toUInt32.toUInt16.toUInt32.toInt32)), .unset, .unset, .unset, .unset, .unset, .unset, .unset, .unset, .unset, .unset] [(.int ((fl.toUInt32 >>> ((2 : Int32) &&& 31).toUInt32).toInt32))]))
      refine Done.step (fun _ => XT.iconstV X0.here hx rfl (1 : Int32) (hb hby at_41) (by decide)) ?_
      show Done _ p e below s _ _ (T0.setTop (mkF m 42 #[.val (.int aa), .val (.int bb), .val (.int pp), .val (.int qq), .val (.int fl), .val (.int (1 : Int32)), .val (.int (2 : Int32)), .val (.int ((aa &&& (255 : Int32)).toUInt32.toUInt16.toUInt32.toInt32)), .val (.int ((((aa.toUInt32 >>> ((8 : Int32) &&& 31).toUInt32).toInt32) &&& (255 : Int32)).toUInt32.toUInt16.toUInt32.toInt32)), .unset, .unset, .unset, .unset, .unset, .unset, .unset, .unset, .unset, .unset] [(.int (1 : Int32)), (.int ((fl.toUInt32 >>> ((2 : Int32) &&& 31).toUInt32).toInt32))]))
      refine Done.step (fun _ => XS.iand X0.here hx rfl (hb hby at_42) rfl) ?_
      show Done _ p e below s _ _ (T0.setTop (mkF m 43 #[.val (.int aa), .val (.int bb), .val (.int pp), .val (.int qq), .val (.int fl), .val (.int (1 : Int32)), .val (.int (2 : Int32)), .val (.int ((aa &&& (255 : Int32)).toUInt32.toUInt16.toUInt32.toInt32)), .val (.int ((((aa.toUInt32 >>> ((8 : Int32) &&& 31).toUInt32).toInt32) &&& (255 : Int32)).toUInt32.toUInt16.toUInt32.toInt32)), .unset, .unset, .unset, .unset, .unset, .unset, .unset, .unset, .unset, .unset] [(.int (((fl.toUInt32 >>> ((2 : Int32) &&& 31).toUInt32).toInt32) &&& (1 : Int32)))]))
      by_cases hc143 : (((fl.toUInt32 >>> ((2 : Int32) &&& 31).toUInt32).toInt32) &&& (1 : Int32)) = (0 : Int32)
      · refine Done.step (fun _ => XS.ifYes X0.here hx rfl (pc0 := 43) (pc' := 51) rfl (hb hby at_43) rfl (XT.i0_eq_t hc143) (by decide) (by decide)) ?_
        show Done _ p e below s _ _ (T0.setTop (mkF m 51 #[.val (.int aa), .val (.int bb), .val (.int pp), .val (.int qq), .val (.int fl), .val (.int (1 : Int32)), .val (.int (2 : Int32)), .val (.int ((aa &&& (255 : Int32)).toUInt32.toUInt16.toUInt32.toInt32)), .val (.int ((((aa.toUInt32 >>> ((8 : Int32) &&& 31).toUInt32).toInt32) &&& (255 : Int32)).toUInt32.toUInt16.toUInt32.toInt32)), .unset, .unset, .unset, .unset, .unset, .unset, .unset, .unset, .unset, .unset] []))
        refine Done.step (fun _ => XS.iloadN X0.here hx rfl (hb hby at_51) rfl) ?_
        show Done _ p e below s _ _ (T0.setTop (mkF m 52 #[.val (.int aa), .val (.int bb), .val (.int pp), .val (.int qq), .val (.int fl), .val (.int (1 : Int32)), .val (.int (2 : Int32)), .val (.int ((aa &&& (255 : Int32)).toUInt32.toUInt16.toUInt32.toInt32)), .val (.int ((((aa.toUInt32 >>> ((8 : Int32) &&& 31).toUInt32).toInt32) &&& (255 : Int32)).toUInt32.toUInt16.toUInt32.toInt32)), .unset, .unset, .unset, .unset, .unset, .unset, .unset, .unset, .unset, .unset] [(.int bb)]))
        refine Done.step (fun _ => XT.sipushV X0.here hx rfl (255 : Int32) (hb hby at_52) (by decide)) ?_
        show Done _ p e below s _ _ (T0.setTop (mkF m 55 #[.val (.int aa), .val (.int bb), .val (.int pp), .val (.int qq), .val (.int fl), .val (.int (1 : Int32)), .val (.int (2 : Int32)), .val (.int ((aa &&& (255 : Int32)).toUInt32.toUInt16.toUInt32.toInt32)), .val (.int ((((aa.toUInt32 >>> ((8 : Int32) &&& 31).toUInt32).toInt32) &&& (255 : Int32)).toUInt32.toUInt16.toUInt32.toInt32)), .unset, .unset, .unset, .unset, .unset, .unset, .unset, .unset, .unset, .unset] [(.int (255 : Int32)), (.int bb)]))
        refine Done.step (fun _ => XS.iand X0.here hx rfl (hb hby at_55) rfl) ?_
        show Done _ p e below s _ _ (T0.setTop (mkF m 56 #[.val (.int aa), .val (.int bb), .val (.int pp), .val (.int qq), .val (.int fl), .val (.int (1 : Int32)), .val (.int (2 : Int32)), .val (.int ((aa &&& (255 : Int32)).toUInt32.toUInt16.toUInt32.toInt32)), .val (.int ((((aa.toUInt32 >>> ((8 : Int32) &&& 31).toUInt32).toInt32) &&& (255 : Int32)).toUInt32.toUInt16.toUInt32.toInt32)), .unset, .unset, .unset, .unset, .unset, .unset, .unset, .unset, .unset, .unset] [(.int (bb &&& (255 : Int32)))]))
        refine Done.step (fun _ => XT.i2c X0.here hx rfl (hb hby at_56) rfl) ?_
        show Done _ p e below s _ _ (T0.setTop (mkF m 57 #[.val (.int aa), .val (.int bb), .val (.int pp), .val (.int qq), .val (.int fl), .val (.int (1 : Int32)), .val (.int (2 : Int32)), .val (.int ((aa &&& (255 : Int32)).toUInt32.toUInt16.toUInt32.toInt32)), .val (.int ((((aa.toUInt32 >>> ((8 : Int32) &&& 31).toUInt32).toInt32) &&& (255 : Int32)).toUInt32.toUInt16.toUInt32.toInt32)), .unset, .unset, .unset, .unset, .unset, .unset, .unset, .unset, .unset, .unset] [(.int ((bb &&& (255 : Int32)).toUInt32.toUInt16.toUInt32.toInt32))]))
        refine Done.step (fun _ => XS.istore X0.here hx rfl (hb hby at_57) rfl (l' := #[.val (.int aa), .val (.int bb), .val (.int pp), .val (.int qq), .val (.int fl), .val (.int (1 : Int32)), .val (.int (2 : Int32)), .val (.int ((aa &&& (255 : Int32)).toUInt32.toUInt16.toUInt32.toInt32)), .val (.int ((((aa.toUInt32 >>> ((8 : Int32) &&& 31).toUInt32).toInt32) &&& (255 : Int32)).toUInt32.toUInt16.toUInt32.toInt32)), .val (.int ((bb &&& (255 : Int32)).toUInt32.toUInt16.toUInt32.toInt32)), .unset, .unset, .unset, .unset, .unset, .unset, .unset, .unset, .unset]) rfl) ?_
        show Done _ p e below s _ _ (T0.setTop (mkF m 59 #[.val (.int aa), .val (.int bb), .val (.int pp), .val (.int qq), .val (.int fl), .val (.int (1 : Int32)), .val (.int (2 : Int32)), .val (.int ((aa &&& (255 : Int32)).toUInt32.toUInt16.toUInt32.toInt32)), .val (.int ((((aa.toUInt32 >>> ((8 : Int32) &&& 31).toUInt32).toInt32) &&& (255 : Int32)).toUInt32.toUInt16.toUInt32.toInt32)), .val (.int ((bb &&& (255 : Int32)).toUInt32.toUInt16.toUInt32.toInt32)), .unset, .unset, .unset, .unset, .unset, .unset, .unset, .unset, .unset] []))
        refine Done.step (fun _ => XS.iload X0.here hx rfl (hb hby at_59) rfl) ?_
        show Done _ p e below s _ _ (T0.setTop (mkF m 61 #[.val (.int aa), .val (.int bb), .val (.int pp), .val (.int qq), .val (.int fl), .val (.int (1 : Int32)), .val (.int (2 : Int32)), .val (.int ((aa &&& (255 : Int32)).toUInt32.toUInt16.toUInt32.toInt32)), .val (.int ((((aa.toUInt32 >>> ((8 : Int32) &&& 31).toUInt32).toInt32) &&& (255 : Int32)).toUInt32.toUInt16.toUInt32.toInt32)), .val (.int ((bb &&& (255 : Int32)).toUInt32.toUInt16.toUInt32.toInt32)), .unset, .unset, .unset, .unset, .unset, .unset, .unset, .unset, .unset] [(.int fl)]))
        refine Done.step (fun _ => XT.iconstV X0.here hx rfl (3 : Int32) (hb hby at_61) (by decide)) ?_
        show Done _ p e below s _ _ (T0.setTop (mkF m 62 #[.val (.int aa), .val (.int bb), .val (.int pp), .val (.int qq), .val (.int fl), .val (.int (1 : Int32)), .val (.int (2 : Int32)), .val (.int ((aa &&& (255 : Int32)).toUInt32.toUInt16.toUInt32.toInt32)), .val (.int ((((aa.toUInt32 >>> ((8 : Int32) &&& 31).toUInt32).toInt32) &&& (255 : Int32)).toUInt32.toUInt16.toUInt32.toInt32)), .val (.int ((bb &&& (255 : Int32)).toUInt32.toUInt16.toUInt32.toInt32)), .unset, .unset, .unset, .unset, .unset, .unset, .unset, .unset, .unset] [(.int (3 : Int32)), (.int fl)]))
        refine Done.step (fun _ => XT.iushr X0.here hx rfl (hb hby at_62) rfl) ?_
        show Done _ p e below s _ _ (T0.setTop (mkF m 63 #[.val (.int aa), .val (.int bb), .val (.int pp), .val (.int qq), .val (.int fl), .val (.int (1 : Int32)), .val (.int (2 : Int32)), .val (.int ((aa &&& (255 : Int32)).toUInt32.toUInt16.toUInt32.toInt32)), .val (.int ((((aa.toUInt32 >>> ((8 : Int32) &&& 31).toUInt32).toInt32) &&& (255 : Int32)).toUInt32.toUInt16.toUInt32.toInt32)), .val (.int ((bb &&& (255 : Int32)).toUInt32.toUInt16.toUInt32.toInt32)), .unset, .unset, .unset, .unset, .unset, .unset, .unset, .unset, .unset] [(.int ((fl.toUInt32 >>> ((3 : Int32) &&& 31).toUInt32).toInt32))]))
        refine Done.step (fun _ => XT.iconstV X0.here hx rfl (1 : Int32) (hb hby at_63) (by decide)) ?_
        show Done _ p e below s _ _ (T0.setTop (mkF m 64 #[.val (.int aa), .val (.int bb), .val (.int pp), .val (.int qq), .val (.int fl), .val (.int (1 : Int32)), .val (.int (2 : Int32)), .val (.int ((aa &&& (255 : Int32)).toUInt32.toUInt16.toUInt32.toInt32)), .val (.int ((((aa.toUInt32 >>> ((8 : Int32) &&& 31).toUInt32).toInt32) &&& (255 : Int32)).toUInt32.toUInt16.toUInt32.toInt32)), .val (.int ((bb &&& (255 : Int32)).toUInt32.toUInt16.toUInt32.toInt32)), .unset, .unset, .unset, .unset, .unset, .unset, .unset, .unset, .unset] [(.int (1 : Int32)), (.int ((fl.toUInt32 >>> ((3 : Int32) &&& 31).toUInt32).toInt32))]))
        refine Done.step (fun _ => XS.iand X0.here hx rfl (hb hby at_64) rfl) ?_
        show Done _ p e below s _ _ (T0.setTop (mkF m 65 #[.val (.int aa), .val (.int bb), .val (.int pp), .val (.int qq), .val (.int fl), .val (.int (1 : Int32)), .val (.int (2 : Int32)), .val (.int ((aa &&& (255 : Int32)).toUInt32.toUInt16.toUInt32.toInt32)), .val (.int ((((aa.toUInt32 >>> ((8 : Int32) &&& 31).toUInt32).toInt32) &&& (255 : Int32)).toUInt32.toUInt16.toUInt32.toInt32)), .val (.int ((bb &&& (255 : Int32)).toUInt32.toUInt16.toUInt32.toInt32)), .unset, .unset, .unset, .unset, .unset, .unset, .unset, .unset, .unset] [(.int (((fl.toUInt32 >>> ((3 : Int32) &&& 31).toUInt32).toInt32) &&& (1 : Int32)))]))
        by_cases hc144 : (((fl.toUInt32 >>> ((3 : Int32) &&& 31).toUInt32).toInt32) &&& (1 : Int32)) = (0 : Int32)
        · refine Done.step (fun _ => XS.ifYes X0.here hx rfl (pc0 := 65) (pc' := 73) rfl (hb hby at_65) rfl (XT.i0_eq_t hc144) (by decide) (by decide)) ?_
          show Done _ p e below s _ _ (T0.setTop (mkF m 73 #[.val (.int aa), .val (.int bb), .val (.int pp), .val (.int qq), .val (.int fl), .val (.int (1 : Int32)), .val (.int (2 : Int32)), .val (.int ((aa &&& (255 : Int32)).toUInt32.toUInt16.toUInt32.toInt32)), .val (.int ((((aa.toUInt32 >>> ((8 : Int32) &&& 31).toUInt32).toInt32) &&& (255 : Int32)).toUInt32.toUInt16.toUInt32.toInt32)), .val (.int ((bb &&& (255 : Int32)).toUInt32.toUInt16.toUInt32.toInt32)), .unset, .unset, .unset, .unset, .unset, .unset, .unset, .unset, .unset] []))
          refine Done.step (fun _ => XS.iloadN X0.here hx rfl (hb hby at_73) rfl) ?_
          show Done _ p e below s _ _ (T0.setTop (mkF m 74 #[.val (.int aa), .val (.int bb), .val (.int pp), .val (.int qq), .val (.int fl), .val (.int (1 : Int32)), .val (.int (2 : Int32)), .val (.int ((aa &&& (255 : Int32)).toUInt32.toUInt16.toUInt32.toInt32)), .val (.int ((((aa.toUInt32 >>> ((8 : Int32) &&& 31).toUInt32).toInt32) &&& (255 : Int32)).toUInt32.toUInt16.toUInt32.toInt32)), .val (.int ((bb &&& (255 : Int32)).toUInt32.toUInt16.toUInt32.toInt32)), .unset, .unset, .unset, .unset, .unset, .unset, .unset, .unset, .unset] [(.int bb)]))
          refine Done.step (fun _ => XT.bipushV X0.here hx rfl (8 : Int32) (hb hby at_74) (by decide)) ?_
          show Done _ p e below s _ _ (T0.setTop (mkF m 76 #[.val (.int aa), .val (.int bb), .val (.int pp), .val (.int qq), .val (.int fl), .val (.int (1 : Int32)), .val (.int (2 : Int32)), .val (.int ((aa &&& (255 : Int32)).toUInt32.toUInt16.toUInt32.toInt32)), .val (.int ((((aa.toUInt32 >>> ((8 : Int32) &&& 31).toUInt32).toInt32) &&& (255 : Int32)).toUInt32.toUInt16.toUInt32.toInt32)), .val (.int ((bb &&& (255 : Int32)).toUInt32.toUInt16.toUInt32.toInt32)), .unset, .unset, .unset, .unset, .unset, .unset, .unset, .unset, .unset] [(.int (8 : Int32)), (.int bb)]))
          refine Done.step (fun _ => XT.iushr X0.here hx rfl (hb hby at_76) rfl) ?_
          show Done _ p e below s _ _ (T0.setTop (mkF m 77 #[.val (.int aa), .val (.int bb), .val (.int pp), .val (.int qq), .val (.int fl), .val (.int (1 : Int32)), .val (.int (2 : Int32)), .val (.int ((aa &&& (255 : Int32)).toUInt32.toUInt16.toUInt32.toInt32)), .val (.int ((((aa.toUInt32 >>> ((8 : Int32) &&& 31).toUInt32).toInt32) &&& (255 : Int32)).toUInt32.toUInt16.toUInt32.toInt32)), .val (.int ((bb &&& (255 : Int32)).toUInt32.toUInt16.toUInt32.toInt32)), .unset, .unset, .unset, .unset, .unset, .unset, .unset, .unset, .unset] [(.int ((bb.toUInt32 >>> ((8 : Int32) &&& 31).toUInt32).toInt32))]))
          refine Done.step (fun _ => XT.sipushV X0.here hx rfl (255 : Int32) (hb hby at_77) (by decide)) ?_
          show Done _ p e below s _ _ (T0.setTop (mkF m 80 #[.val (.int aa), .val (.int bb), .val (.int pp), .val (.int qq), .val (.int fl), .val (.int (1 : Int32)), .val (.int (2 : Int32)), .val (.int ((aa &&& (255 : Int32)).toUInt32.toUInt16.toUInt32.toInt32)), .val (.int ((((aa.toUInt32 >>> ((8 : Int32) &&& 31).toUInt32).toInt32) &&& (255 : Int32)).toUInt32.toUInt16.toUInt32.toInt32)), .val (.int ((bb &&& (255 : Int32)).toUInt32.toUInt16.toUInt32.toInt32)), .unset, .unset, .unset, .unset, .unset, .unset, .unset, .unset, .unset] [(.int (255 : Int32)), (.int ((bb.toUInt32 >>> ((8 : Int32) &&& 31).toUInt32).toInt32))]))
          refine Done.step (fun _ => XS.iand X0.here hx rfl (hb hby at_80) rfl) ?_
          show Done _ p e below s _ _ (T0.setTop (mkF m 81 #[.val (.int aa), .val (.int bb), .val (.int pp), .val (.int qq), .val (.int fl), .val (.int (1 : Int32)), .val (.int (2 : Int32)), .val (.int ((aa &&& (255 : Int32)).toUInt32.toUInt16.toUInt32.toInt32)), .val (.int ((((aa.toUInt32 >>> ((8 : Int32) &&& 31).toUInt32).toInt32) &&& (255 : Int32)).toUInt32.toUInt16.toUInt32.toInt32)), .val (.int ((bb &&& (255 : Int32)).toUInt32.toUInt16.toUInt32.toInt32)), .unset, .unset, .unset, .unset, .unset, .unset, .unset, .unset, .unset] [(.int (((bb.toUInt32 >>> ((8 : Int32) &&& 31).toUInt32).toInt32) &&& (255 : Int32)))]))
          refine Done.step (fun _ => XT.i2c X0.here hx rfl (hb hby at_81) rfl) ?_
          show Done _ p e below s _ _ (T0.setTop (mkF m 82 #[.val (.int aa), .val (.int bb), .val (.int pp), .val (.int qq), .val (.int fl), .val (.int (1 : Int32)), .val (.int (2 : Int32)), .val (.int ((aa &&& (255 : Int32)).toUInt32.toUInt16.toUInt32.toInt32)), .val (.int ((((aa.toUInt32 >>> ((8 : Int32) &&& 31).toUInt32).toInt32) &&& (255 : Int32)).toUInt32.toUInt16.toUInt32.toInt32)), .val (.int ((bb &&& (255 : Int32)).toUInt32.toUInt16.toUInt32.toInt32)), .unset, .unset, .unset, .unset, .unset, .unset, .unset, .unset, .unset] [(.int ((((bb.toUInt32 >>> ((8 : Int32) &&& 31).toUInt32).toInt32) &&& (255 : Int32)).toUInt32.toUInt16.toUInt32.toInt32))]))
          refine Done.step (fun _ => XS.istore X0.here hx rfl (hb hby at_82) rfl (l' := #[.val (.int aa), .val (.int bb), .val (.int pp), .val (.int qq), .val (.int fl), .val (.int (1 : Int32)), .val (.int (2 : Int32)), .val (.int ((aa &&& (255 : Int32)).toUInt32.toUInt16.toUInt32.toInt32)), .val (.int ((((aa.toUInt32 >>> ((8 : Int32) &&& 31).toUInt32).toInt32) &&& (255 : Int32)).toUInt32.toUInt16.toUInt32.toInt32)), .val (.int ((bb &&& (255 : Int32)).toUInt32.toUInt16.toUInt32.toInt32)), .val (.int ((((bb.toUInt32 >>> ((8 : Int32) &&& 31).toUInt32).toInt32) &&& (255 : Int32)).toUInt32.toUInt16.toUInt32.toInt32)), .unset, .unset, .unset, .unset, .unset, .unset, .unset, .unset]) rfl) ?_
          show Done _ p e below s _ _ (T0.setTop (mkF m 84 #[.val (.int aa), .val (.int bb), .val (.int pp), .val (.int qq), .val (.int fl), .val (.int (1 : Int32)), .val (.int (2 : Int32)), .val (.int ((aa &&& (255 : Int32)).toUInt32.toUInt16.toUInt32.toInt32)), .val (.int ((((aa.toUInt32 >>> ((8 : Int32) &&& 31).toUInt32).toInt32) &&& (255 : Int32)).toUInt32.toUInt16.toUInt32.toInt32)), .val (.int ((bb &&& (255 : Int32)).toUInt32.toUInt16.toUInt32.toInt32)), .val (.int ((((bb.toUInt32 >>> ((8 : Int32) &&& 31).toUInt32).toInt32) &&& (255 : Int32)).toUInt32.toUInt16.toUInt32.toInt32)), .unset, .unset, .unset, .unset, .unset, .unset, .unset, .unset] []))
          exact K84 ((aa &&& (255 : Int32)).toUInt32.toUInt16.toUInt32.toInt32) ((((aa.toUInt32 >>> ((8 : Int32) &&& 31).toUInt32).toInt32) &&& (255 : Int32)).toUInt32.toUInt16.toUInt32.toInt32) ((bb &&& (255 : Int32)).toUInt32.toUInt16.toUInt32.toInt32) ((((bb.toUInt32 >>> ((8 : Int32) &&& 31).toUInt32).toInt32) &&& (255 : Int32)).toUInt32.toUInt16.toUInt32.toInt32) (own_ch _) (own_ch _) (own_ch _) (own_ch _)
        · refine Done.step (fun _ => XS.ifNo X0.here hx rfl (hb hby at_65) rfl (XT.i0_eq_f hc144)) ?_
          show Done _ p e below s _ _ (T0.setTop (mkF m 68 #[.val (.int aa), .val (.int bb), .val (.int pp), .val (.int qq), .val (.int fl), .val (.int (1 : Int32)), .val (.int (2 : Int32)), .val (.int ((aa &&& (255 : Int32)).toUInt32.toUInt16.toUInt32.toInt32)), .val (.int ((((aa.toUInt32 >>> ((8 : Int32) &&& 31).toUInt32).toInt32) &&& (255 : Int32)).toUInt32.toUInt16.toUInt32.toInt32)), .val (.int ((bb &&& (255 : Int32)).toUInt32.toUInt16.toUInt32.toInt32)), .unset, .unset, .unset, .unset, .unset, .unset, .unset, .unset, .unset] []))
          refine Done.step (fun _ => XS.iload X0.here hx rfl (hb hby at_68) rfl) ?_
          show Done _ p e below s _ _ (T0.setTop (mkF m 70 #[.val (.int aa), .val (.int bb), .val (.int pp), .val (.int qq), .val (.int fl), .val (.int (1 : Int32)), .val (.int (2 : Int32)), .val (.int ((aa &&& (255 : Int32)).toUInt32.toUInt16.toUInt32.toInt32)), .val (.int ((((aa.toUInt32 >>> ((8 : Int32) &&& 31).toUInt32).toInt32) &&& (255 : Int32)).toUInt32.toUInt16.toUInt32.toInt32)), .val (.int ((bb &&& (255 : Int32)).toUInt32.toUInt16.toUInt32.toInt32)), .unset, .unset, .unset, .unset, .unset, .unset, .unset, .unset, .unset] [(.int ((((aa.toUInt32 >>> ((8 : Int32) &&& 31).toUInt32).toInt32) &&& (255 : Int32)).toUInt32.toUInt16.toUInt32.toInt32))]))
          refine Done.step (fun _ => XS.goto X0.here hx rfl (pc0 := 70) (pc' := 82) rfl (hb hby at_70) (by decide) (by decide)) ?_
          show Done _ p e below s _ _ (T0.setTop (mkF m 82 #[.val (.int aa), .val (.int bb), .val (.int pp), .val (.int qq), .val (.int fl), .val (.int (1 : Int32)), .val (.int (2 : Int32)), .val (.int ((aa &&& (255 : Int32)).toUInt32.toUInt16.toUInt32.toInt32)), .val (.int ((((aa.toUInt32 >>> ((8 : Int32) &&& 31).toUInt32).toInt32) &&& (255 : Int32)).toUInt32.toUInt16.toUInt32.toInt32)), .val (.int ((bb &&& (255 : Int32)).toUInt32.toUInt16.toUInt32.toInt32)), .unset, .unset, .unset, .unset, .unset, .unset, .unset, .unset, .unset] [(.int ((((aa.toUInt32 >>> ((8 : Int32) &&& 31).toUInt32).toInt32) &&& (255 : Int32)).toUInt32.toUInt16.toUInt32.toInt32))]))
          refine Done.step (fun _ => XS.istore X0.here hx rfl (hb hby at_82) rfl (l' := #[.val (.int aa), .val (.int bb), .val (.int pp), .val (.int qq), .val (.int fl), .val (.int (1 : Int32)), .val (.int (2 : Int32)), .val (.int ((aa &&& (255 : Int32)).toUInt32.toUInt16.toUInt32.toInt32)), .val (.int ((((aa.toUInt32 >>> ((8 : Int32) &&& 31).toUInt32).toInt32) &&& (255 : Int32)).toUInt32.toUInt16.toUInt32.toInt32)), .val (.int ((bb &&& (255 : Int32)).toUInt32.toUInt16.toUInt32.toInt32)), .val (.int ((((aa.toUInt32 >>> ((8 : Int32) &&& 31).toUInt32).toInt32) &&& (255 : Int32)).toUInt32.toUInt16.toUInt32.toInt32)), .unset, .unset, .unset, .unset, .unset, .unset, .unset, .unset]) rfl) ?_
          show Done _ p e below s _ _ (T0.setTop (mkF m 84 #[.val (.int aa), .val (.int bb), .val (.int pp), .val (.int qq), .val (.int fl), .val (.int (1 : Int32)), .val (.int (2 : Int32)), .val (.int ((aa &&& (255 : Int32)).toUInt32.toUInt16.toUInt32.toInt32)), .val (.int ((((aa.toUInt32 >>> ((8 : Int32) &&& 31).toUInt32).toInt32) &&& (255 : Int32)).toUInt32.toUInt16.toUInt32.toInt32)), .val (.int ((bb &&& (255 : Int32)).toUInt32.toUInt16.toUInt32.toInt32)), .val (.int ((((aa.toUInt32 >>> ((8 : Int32) &&& 31).toUInt32).toInt32) &&& (255 : Int32)).toUInt32.toUInt16.toUInt32.toInt32)), .unset, .unset, .unset, .unset, .unset, .unset, .unset, .unset] []))
          exact K84 ((aa &&& (255 : Int32)).toUInt32.toUInt16.toUInt32.toInt32) ((((aa.toUInt32 >>> ((8 : Int32) &&& 31).toUInt32).toInt32) &&& (255 : Int32)).toUInt32.toUInt16.toUInt32.toInt32) ((bb &&& (255 : Int32)).toUInt32.toUInt16.toUInt32.toInt32) ((((aa.toUInt32 >>> ((8 : Int32) &&& 31).toUInt32).toInt32) &&& (255 : Int32)).toUInt32.toUInt16.toUInt32.toInt32) (own_ch _) (own_ch _) (own_ch _) (own_ch _)
      · refine Done.step (fun _ => XS.ifNo X0.here hx rfl (hb hby at_43) rfl (XT.i0_eq_f hc143)) ?_
        show Done _ p e below s _ _ (T0.setTop (mkF m 46 #[.val (.int aa), .val (.int bb), .val (.int pp), .val (.int qq), .val (.int fl), .val (.int (1 : Int32)), .val (.int (2 : Int32)), .val (.int ((aa &&& (255 : Int32)).toUInt32.toUInt16.toUInt32.toInt32)), .val (.int ((((aa.toUInt32 >>> ((8 : Int32) &&& 31).toUInt32).toInt32) &&& (255 : Int32)).toUInt32.toUInt16.toUInt32.toInt32)), .unset, .unset, .unset, .unset, .unset, .unset, .unset, .unset, .unset, .unset] []))
        refine Done.step (fun _ => XS.iload X0.here hx rfl (hb hby at_46) rfl) ?_
        show Done _ p e below s _ _ (T0.setTop (mkF m 48 #[.val (.int aa), .val (.int bb), .val (.int pp), .val (.int qq), .val (.int fl), .val (.int (1 : Int32)), .val (.int (2 : Int32)), .val (.int ((aa &&& (255 : Int32)).toUInt32.toUInt16.toUInt32.toInt32)), .val (.int ((((aa.toUInt32 >>> ((8 : Int32) &&& 31).toUInt32).toInt32) &&& (255 : Int32)).toUInt32.toUInt16.toUInt32.toInt32)), .unset, .unset, .unset, .unset, .unset, .unset, .unset, .unset, .unset, .unset] [(.int ((aa &&& (255 : Int32)).toUInt32.toUInt16.toUInt32.toInt32))]))
        refine Done.step (fun _ => XS.goto X0.here hx rfl (pc0 := 48) (pc' := 57) rfl (hb hby at_48) (by decide) (by decide)) ?_
        show Done _ p e below s _ _ (T0.setTop (mkF m 57 #[.val (.int aa), .val (.int bb), .val (.int pp), .val (.int qq), .val (.int fl), .val (.int (1 : Int32)), .val (.int (2 : Int32)), .val (.int ((aa &&& (255 : Int32)).toUInt32.toUInt16.toUInt32.toInt32)), .val (.int ((((aa.toUInt32 >>> ((8 : Int32) &&& 31).toUInt32).toInt32) &&& (255 : Int32)).toUInt32.toUInt16.toUInt32.toInt32)), .unset, .unset, .unset, .unset, .unset, .unset, .unset, .unset, .unset, .unset] [(.int ((aa &&& (255 : Int32)).toUInt32.toUInt16.toUInt32.toInt32))]))
        refine Done.step (fun _ => XS.istore X0.here hx rfl (hb hby at_57) rfl (l' := #[.val (.int aa), .val (.int bb), .val (.int pp), .val (.int qq), .val (.int fl), .val (.int (1 : Int32)), .val (.int (2 : Int32)), .val (.int ((aa &&& (255 : Int32)).toUInt32.toUInt16.toUInt32.toInt32)), .val (.int ((((aa.toUInt32 >>> ((8 : Int32) &&& 31).toUInt32).toInt32) &&& (255 : Int32)).toUInt32.toUInt16.toUInt32.toInt32)), .val (.int ((aa &&& (255 : Int32)).toUInt32.toUInt16.toUInt32.toInt32)), .unset, .unset, .unset, .unset, .unset, .unset, .unset, .unset, .unset]) rfl) ?_
        show Done _ p e below s _ _ (T0.setTop (mkF m 59 #[.val (.int aa), .val (.int bb), .val (.int pp), .val (.int qq), .val (.int fl), .val (.int (1 : Int32)), .val (.int (2 : Int32)), .val (.int ((aa &&& (255 : Int32)).toUInt32.toUInt16.toUInt32.toInt32)), .val (.int ((((aa.toUInt32 >>> ((8 : Int32) &&& 31).toUInt32).toInt32) &&& (255 : Int32)).toUInt32.toUInt16.toUInt32.toInt32)), .val (.int ((aa &&& (255 : Int32)).toUInt32.toUInt16.toUInt32.toInt32)), .unset, .unset, .unset, .unset, .unset, .unset, .unset, .unset, .unset] []))
        refine Done.step (fun _ => XS.iload X0.here hx rfl (hb hby at_59) rfl) ?_
        show Done _ p e below s _ _ (T0.setTop (mkF m 61 #[.val (.int aa), .val (.int bb), .val (.int pp), .val (.int qq), .val (.int fl), .val (.int (1 : Int32)), .val (.int (2 : Int32)), .val (.int ((aa &&& (255 : Int32)).toUInt32.toUInt16.toUInt32.toInt32)), .val (.int ((((aa.toUInt32 >>> ((8 : Int32) &&& 31).toUInt32).toInt32) &&& (255 : Int32)).toUInt32.toUInt16.toUInt32.toInt32)), .val (.int ((aa &&& (255 : Int32)).toUInt32.toUInt16.toUInt32.toInt32)), .unset, .unset, .unset, .unset, .unset, .unset, .unset, .unset, .unset] [(.int fl)]))
        refine Done.step (fun _ => XT.iconstV X0.here hx rfl (3 : Int32) (hb hby at_61) (by decide)) ?_
        show Done _ p e below s _ _ (T0.setTop (mkF m 62 #[.val (.int aa), .val (.int bb), .val (.int pp), .val (.int qq), .val (.int fl), .val (.int (1 : Int32)), .val (.int (2 : Int32)), .val (.int ((aa &&& (255 : Int32)).toUInt32.toUInt16.toUInt32.toInt32)), .val (.int ((((aa.toUInt32 >>> ((8 : Int32) &&& 31).toUInt32).toInt32) &&& (255 : Int32)).toUInt32.toUInt16.toUInt32.toInt32)), .val (.int ((aa &&& (255 : Int32)).toUInt32.toUInt16.toUInt32.toInt32)), .unset, .unset, .unset, .unset, .unset, .unset, .unset, .unset, .unset] [(.int (3 : Int32)), (.int fl)]))
        refine Done.step (fun _ => XT.iushr X0.here hx rfl (hb hby at_62) rfl) ?_
        show Done _ p e below s _ _ (T0.setTop (mkF m 63 #[.val (.int aa), .val (.int bb), .val (.int pp), .val (.int qq), .val (.int fl), .val (.int (1 : Int32)), .val (.int (2 : Int32)), .val (.int ((aa &&& (255 : Int32)).toUInt32.toUInt16.toUInt32.toInt32)), .val (.int ((((aa.toUInt32 >>> ((8 : Int32) &&& 31).toUInt32).toInt32) &&& (255 : Int32)).toUInt32.toUInt16.toUInt32.toInt32)), .val (.int ((aa &&& (255 : Int32)).toUInt32.toUInt16.toUInt32.toInt32)), .unset, .unset, .unset, .unset, .unset, .unset, .unset, .unset, .unset] [(.int ((fl.toUInt32 >>> ((3 : Int32) &&& 31).toUInt32).toInt32))]))
        refine Done.step (fun _ => XT.iconstV X0.here hx rfl (1 : Int32) (hb hby at_63) (by decide)) ?_
        show Done _ p e below s _ _ (T0.setTop (mkF m 64 #[.val (.int aa), .val (.int bb), .val (.int pp), .val (.int qq), .val (.int fl), .val (.int (1 : Int32)), .val (.int (2 : Int32)), .val (.int ((aa &&& (255 : Int32)).toUInt32.toUInt16.toUInt32.toInt32)), .val (.int ((((aa.toUInt32 >>> ((8 : Int32) &&& 31).toUInt32).toInt32) &&& (255 : Int32)).toUInt32.toUInt16.toUInt32.toInt32)), .val (.int ((aa &&& (255 : Int32)).toUInt32.toUInt16.toUInt32.toInt32)), .unset, .unset, .unset, .unset, .unset, .unset, .unset, .unset, .unset] [(.int (1 : Int32)), (.int ((fl.toUInt32 >>> ((3 : Int32) &&& 31).toUInt32).toInt32))]))
        refine Done.step (fun _ => XS.iand X0.here hx rfl (hb hby at_64) rfl) ?_
        show Done _ p e below s _ _ (T0.setTop (mkF m 65 #[.val (.int aa), .val (.int bb), .val (.int pp), .val (.int qq), .val (.int fl), .val (.int (1 : Int32)), .val (.int (2 : Int32)), .val (.int ((aa &&& (255 : Int32)).toUInt32.toUInt16.toUInt32.toInt32)), .val (.int ((((aa.toUInt32 >>> ((8 : Int32) &&& 31).toUInt32).toInt32) &&& (255 : Int32)).toUInt32.toUInt16.toUInt32.toInt32)), .val (.int ((aa &&& (255 : Int32)).toUInt32.toUInt16.toUInt32.toInt32)), .unset, .unset, .unset, .unset, .unset, .unset, .unset, .unset, .unset] [(.int (((fl.toUInt32 >>> ((3 : Int32) &&& 31).toUInt32).toInt32) &&& (1 : Int32)))]))
        by_cases hc145 : (((fl.toUInt32 >>> ((3 : Int32) &&& 31).toUInt32).toInt32) &&& (1 : Int32)) = (0 : Int32)
        · refine Done.step (fun _ => XS.ifYes X0.here hx rfl (pc0 := 65) (pc' := 73) rfl (hb hby at_65) rfl (XT.i0_eq_t hc145) (by decide) (by decide)) ?_
          show Done _ p e below s _ _ (T0.setTop (mkF m 73 #[.val (.int aa), .val (.int bb), .val (.int pp), .val (.int qq), .val (.int fl), .val (.int (1 : Int32)), .val (.int (2 : Int32)), .val (.int ((aa &&& (255 : Int32)).toUInt32.toUInt16.toUInt32.toInt32)), .val (.int ((((aa.toUInt32 >>> ((8 : Int32) &&& 31).toUInt32).toInt32) &&& (255 : Int32)).toUInt32.toUInt16.toUInt32.toInt32)), .val (.int ((aa &&& (255 : Int32)).toUInt32.toUInt16.toUInt32.toInt32)), .unset, .unset, .unset, .unset, .unset, .unset, .unset, .unset, .unset] []))
          refine Done.step (fun _ => XS.iloadN X0.here hx rfl (hb hby at_73) rfl) ?_
          show Done _ p e below s _ _ (T0.setTop (mkF m 74 #[.val (.int aa), .val (.int bb), .val (.int pp), .val (.int qq), .val (.int fl), .val (.int (1 : Int32)), .val (.int (2 : Int32)), .val (.int ((aa &&& (255 : Int32)).toUInt32.toUInt16.toUInt32.toInt32)), .val (.int ((((aa.toUInt32 >>> ((8 : Int32) &&& 31).toUInt32).toInt32) &&& (255 : Int32)).toUInt32.toUInt16.toUInt32.toInt32)), .val (.int ((aa &&& (255 : Int32)).toUInt32.toUInt16.toUInt32.toInt32)), .unset, .unset, .unset, .unset, .unset, .unset, .unset, .unset, .unset] [(.int bb)]))
          refine Done.step (fun _ => XT.bipushV X0.here hx rfl (8 : Int32) (hb hby at_74) (by decide)) ?_
          show Done _ p e below s _ _ (T0.setTop (mkF m 76 #[.val (.int aa), .val (.int bb), .val (.int pp), .val (.int qq), .val (.int fl), .val (.int (1 : Int32)), .val (.int (2 : Int32)), .val (.int ((aa &&& (255 : Int32)).toUInt32.toUInt16.toUInt32.toInt32)), .val (.int ((((aa.toUInt32 >>> ((8 : Int32) &&& 31).toUInt32).toInt32) &&& (255 : Int32)).toUInt32.toUInt16.toUInt32.toInt32)), .val (.int ((aa &&& (255 : Int32)).toUInt32.toUInt16.toUInt32.toInt32)), .unset, .unset, .unset, .unset, .unset, .unset, .unset, .unset, .unset] [(.int (8 : Int32)), (.int bb)]))
          refine Done.step (fun _ => XT.iushr X0.here hx rfl (hb hby at_76) rfl) ?_
          show Done _ p e below s _ _ (T0.setTop (mkF m 77 #[.val (.int aa), .val (.int bb), .val (.int pp), .val (.int qq), .val (.int fl), .val (.int (1 : Int32)), .val (.int (2 : Int32)), .val (.int ((aa &&& (255 : Int32)).toUInt32.toUInt16.toUInt32.toInt32)), .val (.int ((((aa.toUInt32 >>> ((8 : Int32) &&& 31).toUInt32).toInt32) &&& (255 : Int32)).toUInt32.toUInt16.toUInt32.toInt32)), .val (.int ((aa &&& (255 : Int32)).toUInt32.toUInt16.toUInt32.toInt32)), .unset, .unset, .unset, .unset, .unset, .unset, .unset, .unset, .unset] [(.int ((bb.toUInt32 >>> ((8 : Int32) &&& 31).toUInt32).toInt32))]))
          refine Done.step (fun _ => XT.sipushV X0.here hx rfl (255 : Int32) (hb hby at_77) (by decide)) ?_
          show Done _ p e below s _ _ (T0.setTop (mkF m 80 #[.val (.int aa), .val (.int bb), .val (.int pp), .val (.int qq), .val (.int fl), .val (.int (1 : Int32)), .val (.int (2 : Int32)), .val (.int ((aa &&& (255 : Int32)).toUInt32.toUInt16.toUInt32.toInt32)), .val (.int ((((aa.toUInt32 >>> ((8 : Int32) &&& 31).toUInt32).toInt32) &&& (255 : Int32)).toUInt32.toUInt16.toUInt32.toInt32)), .val (.int ((aa &&& (255 : Int32)).toUInt32.toUInt16.toUInt32.toInt32)), .unset, .unset, .unset, .unset, .unset, .unset, .unset, .unset, .unset] [(.int (255 : Int32)), (.int ((bb.toUInt32 >>> ((8 : Int32) &&& 31).toUInt32).toInt32))]))
          refine Done.step (fun _ => XS.iand X0.here hx rfl (hb hby at_80) rfl) ?_
          show Done _ p e below s _ _ (T0.setTop (mkF m 81 #[.val (.int aa), .val (.int bb), .val (.int pp), .val (.int qq), .val (.int fl), .val (.int (1 : Int32)), .val (.int (2 : Int32)), .val (.int ((aa &&& (255 : Int32)).toUInt32.toUInt16.toUInt32.toInt32)), .val (.int ((((aa.toUInt32 >>> ((8 : Int32) &&& 31).toUInt32).toInt32) &&& (255 : Int32)).toUInt32.toUInt16.toUInt32.toInt32)), .val (.int ((aa &&& (255 : Int32)).toUInt32.toUInt16.toUInt32.toInt32)), .unset, .unset, .unset, .unset, .unset, .unset, .unset, .unset, .unset] [(.int (((bb.toUInt32 >>> ((8 : Int32) &&& 31).toUInt32).toInt32) &&& (255 : Int32)))]))
          refine Done.step (fun _ => XT.i2c X0.here hx rfl (hb hby at_81) rfl) ?_
          show Done _ p e below s _ _ (T0.setTop (mkF m 82 #[.val (.int aa), .val (.int bb), .val (.int pp), .val (.int qq), .val (.int fl), .val (.int (1 : Int32)), .val (.int (2 : Int32)), .val (.int ((aa &&& (255 : Int32)).toUInt32.toUInt16.toUInt32.toInt32)), .val (.int ((((aa.toUInt32 >>> ((8 : Int32) &&& 31).toUInt32).toInt32) &&& (255 : Int32)).toUInt32.toUInt16.toUInt32.toInt32)), .val (.int ((aa &&& (255 : Int32)).toUInt32.toUInt16.toUInt32.toInt32)), .unset, .unset, .unset, .unset, .unset, .unset, .unset, .unset, .unset] [(.int ((((bb.toUInt32 >>> ((8 : Int32) &&& 31).toUInt32).toInt32) &&& (255 : Int32)).toUInt32.toUInt16.toUInt32.toInt32))]))
          refine Done.step (fun _ => XS.istore X0.here hx rfl (hb hby at_82) rfl (l' := #[.val (.int aa), .val (.int bb), .val (.int pp), .val (.int qq), .val (.int fl), .val (.int (1 : Int32)), .val (.int (2 : Int32)), .val (.int ((aa &&& (255 : Int32)).toUInt32.toUInt16.toUInt32.toInt32)), .val (.int ((((aa.toUInt32 >>> ((8 : Int32) &&& 31).toUInt32).toInt32) &&& (255 : Int32)).toUInt32.toUInt16.toUInt32.toInt32)), .val (.int ((aa &&& (255 : Int32)).toUInt32.toUInt16.toUInt32.toInt32)), .val (.int ((((bb.toUInt32 >>> ((8 : Int32) &&& 31).toUInt32).toInt32) &&& (255 : Int32)).toUInt32.toUInt16.toUInt32.toInt32)), .unset, .unset, .unset, .unset, .unset, .unset, .unset, .unset]) rfl) ?_
          show Done _ p e below s _ _ (T0.setTop (mkF m 84 #[.val (.int aa), .val (.int bb), .val (.int pp), .val (.int qq), .val (.int fl), .val (.int (1 : Int32)), .val (.int (2 : Int32)), .val (.int ((aa &&& (255 : Int32)).toUInt32.toUInt16.toUInt32.toInt32)), .val (.int ((((aa.toUInt32 >>> ((8 : Int32) &&& 31).toUInt32).toInt32) &&& (255 : Int32)).toUInt32.toUInt16.toUInt32.toInt32)), .val (.int ((aa &&& (255 : Int32)).toUInt32.toUInt16.toUInt32.toInt32)), .val (.int ((((bb.toUInt32 >>> ((8 : Int32) &&& 31).toUInt32).toInt32) &&& (255 : Int32)).toUInt32.toUInt16.toUInt32.toInt32)), .unset, .unset, .unset, .unset, .unset, .unset, .unset, .unset] []))
          exact K84 ((aa &&& (255 : Int32)).toUInt32.toUInt16.toUInt32.toInt32) ((((aa.toUInt32 >>> ((8 : Int32) &&& 31).toUInt32).toInt32) &&& (255 : Int32)).toUInt32.toUInt16.toUInt32.toInt32) ((aa &&& (255 : Int32)).toUInt32.toUInt16.toUInt32.toInt32) ((((bb.toUInt32 >>> ((8 : Int32) &&& 31).toUInt32).toInt32) &&& (255 : Int32)).toUInt32.toUInt16.toUInt32.toInt32) (own_ch _) (own_ch _) (own_ch _) (own_ch _)
        · refine Done.step (fun _ => XS.ifNo X0.here hx rfl (hb hby at_65) rfl (XT.i0_eq_f hc145)) ?_
          show Done _ p e below s _ _ (T0.setTop (mkF m 68 #[.val (.int aa), .val (.int bb), .val (.int pp), .val (.int qq), .val (.int fl), .val (.int (1 : Int32)), .val (.int (2 : Int32)), .val (.int ((aa &&& (255 : Int32)).toUInt32.toUInt16.toUInt32.toInt32)), .val (.int ((((aa.toUInt32 >>> ((8 : Int32) &&& 31).toUInt32).toInt32) &&& (255 : Int32)).toUInt32.toUInt16.toUInt32.toInt32)), .val (.int ((aa &&& (255 : Int32)).toUInt32.toUInt16.toUInt32.toInt32)), .unset, .unset, .unset, .unset, .unset, .unset, .unset, .unset, .unset] []))
          refine Done.step (fun _ => XS.iload X0.here hx rfl (hb hby at_68) rfl) ?_
          show Done _ p e below s _ _ (T0.setTop (mkF m 70 #[.val (.int aa), .val (.int bb), .val (.int pp), .val (.int qq), .val (.int fl), .val (.int (1 : Int32)), .val (.int (2 : Int32)), .val (.int ((aa &&& (255 : Int32)).toUInt32.toUInt16.toUInt32.toInt32)), .val (.int ((((aa.toUInt32 >>> ((8 : Int32) &&& 31).toUInt32).toInt32) &&& (255 : Int32)).toUInt32.toUInt16.toUInt32.toInt32)), .val (.int ((aa &&& (255 : Int32)).toUInt32.toUInt16.toUInt32.toInt32)), .unset, .unset, .unset, .unset, .unset, .unset, .unset, .unset, .unset] [(.int ((((aa.toUInt32 >>> ((8 : Int32) &&& 31).toUInt32).toInt32) &&& (255 : Int32)).toUInt32.toUInt16.toUInt32.toInt32))]))
          refine Done.step (fun _ => XS.goto X0.here hx rfl (pc0 := 70) (pc' := 82) rfl (hb hby at_70) (by decide) (by decide)) ?_
          show Done _ p e below s _ _ (T0.setTop (mkF m 82 #[.val (.int aa), .val (.int bb), .val (.int pp), .val (.int qq), .val (.int fl), .val (.int (1 : Int32)), .val (.int (2 : Int32)), .val (.int ((aa &&& (255 : Int32)).toUInt32.toUInt16.toUInt32.toInt32)), .val (.int ((((aa.toUInt32 >>> ((8 : Int32) &&& 31).toUInt32).toInt32) &&& (255 : Int32)).toUInt32.toUInt16.toUInt32.toInt32)), .val (.int ((aa &&& (255 : Int32)).toUInt32.toUInt16.toUInt32.toInt32)), .unset, .unset, .unset, .unset, .unset, .unset, .unset, .unset, .unset] [(.int ((((aa.toUInt32 >>> ((8 : Int32) &&& 31).toUInt32).toInt32) &&& (255 : Int32)).toUInt32.toUInt16.toUInt32.toInt32))]))
          refine Done.step (fun _ => XS.istore X0.here hx rfl (hb hby at_82) rfl (l' := #[.val (.int aa), .val (.int bb), .val (.int pp), .val (.int qq), .val (.int fl), .val (.int (1 : Int32)), .val (.int (2 : Int32)), .val (.int ((aa &&& (255 : Int32)).toUInt32.toUInt16.toUInt32.toInt32)), .val (.int ((((aa.toUInt32 >>> ((8 : Int32) &&& 31).toUInt32).toInt32) &&& (255 : Int32)).toUInt32.toUInt16.toUInt32.toInt32)), .val (.int ((aa &&& (255 : Int32)).toUInt32.toUInt16.toUInt32.toInt32)), .val (.int ((((aa.toUInt32 >>> ((8 : Int32) &&& 31).toUInt32).toInt32) &&& (255 : Int32)).toUInt32.toUInt16.toUInt32.toInt32)), .unset, .unset, .unset, .unset, .unset, .unset, .unset, .unset]) rfl) ?_
          show Done _ p e below s _ _ (T0.setTop (mkF m 84 #[.val (.int aa), .val (.int bb), .val (.int pp), .val (.int qq), .val (.int fl), .val (.int (1 : Int32)), .val (.int (2 : Int32)), .val (.int ((aa &&& (255 : Int32)).toUInt32.toUInt16.toUInt32.toInt32)), .val (.int ((((aa.toUInt32 >>> ((8 : Int32) &&& 31).toUInt32).toInt32) &&& (255 : Int32)).toUInt32.toUInt16.toUInt32.toInt32)), .val (.int ((aa &&& (255 : Int32)).toUInt32.toUInt16.toUInt32.toInt32)), .val (.int ((((aa.toUInt32 >>> ((8 : Int32) &&& 31).toUInt32).toInt32) &&& (255 : Int32)).toUInt32.toUInt16.toUInt32.toInt32)), .unset, .unset, .unset, .unset, .unset, .unset, .unset, .unset] []))
          exact K84 ((aa &&& (255 : Int32)).toUInt32.toUInt16.toUInt32.toInt32) ((((aa.toUInt32 >>> ((8 : Int32) &&& 31).toUInt32).toInt32) &&& (255 : Int32)).toUInt32.toUInt16.toUInt32.toInt32) ((aa &&& (255 : Int32)).toUInt32.toUInt16.toUInt32.toInt32) ((((aa.toUInt32 >>> ((8 : Int32) &&& 31).toUInt32).toInt32) &&& (255 : Int32)).toUInt32.toUInt16.toUInt32.toInt32) (own_ch _) (own_ch _) (own_ch _) (own_ch _)
  · rw [hv]
    show Done _ p e below s _ _ (T0.setTop (mkF m 8 #[.val (.int aa), .val (.int bb), .val (.int pp), .val (.int qq), .val (.int fl), .val (.int (2 : Int32)), .unset, .unset, .unset, .unset, .unset, .unset, .unset, .unset, .unset, .unset, .unset, .unset, .unset] []))
    refine Done.step (fun _ => XT.iconstV X0.here hx rfl (1 : Int32) (hb hby at_8) (by decide)) ?_
    show Done _ p e below s _ _ (T0.setTop (mkF m 9 #[.val (.int aa), .val (.int bb), .val (.int pp), .val (.int qq), .val (.int fl), .val (.int (2 : Int32)), .unset, .unset, .unset, .unset, .unset, .unset, .unset, .unset, .unset, .unset, .unset, .unset, .unset] [(.int (1 : Int32))]))
    refine Done.step (fun _ => XS.iload X0.here hx rfl (hb hby at_9) rfl) ?_
    show Done _ p e below s _ _ (T0.setTop (mkF m 11 #[.val (.int aa), .val (.int bb), .val (.int pp), .val (.int qq), .val (.int fl), .val (.int (2 : Int32)), .unset, .unset, .unset, .unset, .unset, .unset, .unset, .unset, .unset, .unset, .unset, .unset, .unset] [(.int fl), (.int (1 : Int32))]))
    refine Done.step (fun _ => XT.iconstV X0.here hx rfl (1 : Int32) (hb hby at_11) (by decide)) ?_
    show Done _ p e below s _ _ (T0.setTop (mkF m 12 #[.val (.int aa), .val (.int bb), .val (.int pp), .val (.int qq), .val (.int fl), .val (.int (2 : Int32)), .unset, .unset, .unset, .unset, .unset, .unset, .unset, .unset, .unset, .unset, .unset, .unset, .unset] [(.int (1 : Int32)), (.int fl), (.int (1 : Int32))]))
    refine Done.step (fun _ => XT.iushr X0.here hx rfl (hb hby at_12) rfl) ?_
    show Done _ p e below s _ _ (T0.setTop (mkF m 13 #[.val (.int aa), .val (.int bb), .val (.int pp), .val (.int qq), .val (.int fl), .val (.int (2 : Int32)), .unset, .unset, .unset, .unset, .unset, .unset, .unset, .unset, .unset, .unset, .unset, .unset, .unset] [(.int ((fl.toUInt32 >>> ((1 : Int32) &&& 31).toUInt32).toInt32)), (.int (1 : Int32))]))
    refine Done.step (fun _ => XT.iconstV X0.here hx rfl (1 : Int32) (hb hby at_13) (by decide)) ?_
    show Done _ p e below s _ _ (T0.setTop (mkF m 14 #[.val (.int aa), .val (.int bb), .val (.int pp), .val (.int qq), .val (.int fl), .val (.int (2 : Int32)), .unset, .unset, .unset, .unset, .unset, .unset, .unset, .unset, .unset, .unset, .unset, .unset, .unset] [(.int (1 : Int32)), (.int ((fl.toUInt32 >>> ((1 : Int32) &&& 31).toUInt32).toInt32)), (.int (1 : Int32))]))
    refine Done.step (fun _ => XS.iand X0.here hx rfl (hb hby at_14) rfl) ?_
    show Done _ p e below s _ _ (T0.setTop (mkF m 15 #[.val (.int aa), .val (.int bb), .val (.int pp), .val (.int qq), .val (.int fl), .val (.int (2 : Int32)), .unset, .unset, .unset, .unset, .unset, .unset, .unset, .unset, .unset, .unset, .unset, .unset, .unset] [(.int (((fl.toUInt32 >>> ((1 : Int32) &&& 31).toUInt32).toInt32) &&& (1 : Int32))), (.int (1 : Int32))]))
    refine Done.step (fun _ => XS.iadd X0.here hx rfl (hb hby at_15) rfl) ?_
    show Done _ p e below s _ _ (T0.setTop (mkF m 16 #[.val (.int aa), .val (.int bb), .val (.int pp), .val (.int qq), .val (.int fl), .val (.int (2 : Int32)), .unset, .unset, .unset, .unset, .unset, .unset, .unset, .unset, .unset, .unset, .unset, .unset, .unset] [(.int ((1 : Int32) + (((fl.toUInt32 >>> ((1 : Int32) &&& 31).toUInt32).toInt32) &&& (1 : Int32))))]))
    refine Done.step (fun _ => XS.istore X0.here hx rfl (hb hby at_16) rfl (l' := #[.val (.int aa), .val (.int bb), .val (.int pp), .val (.int qq), .val (.int fl), .val (.int (2 : Int32)), .val (.int ((1 : Int32) + (((fl.toUInt32 >>> ((1 : Int32) &&& 31).toUInt32).toInt32) &&& (1 : Int32)))), .unset, .unset, .unset, .unset, .unset, .unset, .unset, .unset, .unset, .unset, .unset, .unset]) rfl) ?_
    show Done _ p e below s _ _ (T0.setTop (mkF m 18 #[.val (.int aa), .val (.int bb), .val (.int pp), .val (.int qq), .val (.int fl), .val (.int (2 : Int32)), .val (.int ((1 : Int32) + (((fl.toUInt32 >>> ((1 : Int32) &&& 31).toUInt32).toInt32) &&& (1 : Int32)))), .unset, .unset, .unset, .unset, .unset, .unset, .unset, .unset, .unset, .unset, .unset, .unset] []))
    rcases (own_m1 ((fl.toUInt32 >>> ((1 : Int32) &&& 31).toUInt32).toInt32)) with hv | hv
    · rw [hv]
      show Done _ p e below s _ _ (T0.setTop (mkF m 18 #[.val (.int aa), .val (.int bb), .val (.int pp), .val (.int qq), .val (.int fl), .val (.int (2 : Int32)), .val (.int (1 : Int32)), .unset, .unset, .unset, .unset, .unset, .unset, .unset, .unset, .unset, .unset, .unset, .unset] []))
      refine Done.step (fun _ => XS.iloadN X0.here hx rfl (hb hby at_18) rfl) ?_
      show Done _ p e below s _ _ (T0.setTop (mkF m 19 #[.val (.int aa), .val (.int bb), .val (.int pp), .val (.int qq), .val (.int fl), .val (.int (2 : Int32)), .val (.int (1 : Int32)), .unset, .unset, .unset, .unset, .unset, .unset, .unset, .unset, .unset, .unset, .unset, .unset] [(.int aa)]))
      refine Done.step (fun _ => XT.sipushV X0.here hx rfl (255 : Int32) (hb hby at_19) (by decide)) ?_
      show Done _ p e below s _ _ (T0.setTop (mkF m 22 #[.val (.int aa), .val (.int bb), .val (.int pp), .val (.int qq), .val (.int fl), .val (.int (2 : Int32)), .val (.int (1 : Int32)), .unset, .unset, .unset, .unset, .unset, .unset, .unset, .unset, .unset, .unset, .unset, .unset] [(.int (255 : Int32)), (.int aa)]))
      refine Done.step (fun _ => XS.iand X0.here hx rfl (hb hby at_22) rfl) ?_
      show Done _ p e below s _ _ (T0.setTop (mkF m 23 #[.val (.int aa), .val (.int bb), .val (.int pp), .val (.int qq), .val (.int fl), .val (.int (2 : Int32)), .val (.int (1 : Int32)), .unset, .unset, .unset, .unset, .unset, .unset, .unset, .unset, .unset, .unset, .unset, .unset] [(.int (aa &&& (255 : Int32)))]))
      refine Done.step (fun _ => XT.i2c X0.here hx rfl (hb hby at_23) rfl) ?_
      show Done _ p e below s _ _ (T0.setTop (mkF m 24 #[.val (.int aa), .val (.int bb), .val (.int pp), .val (.int qq), .val (.int fl), .val (.int (2 : Int32)), .val (.int (1 : Int32)), .unset, .unset, .unset, .unset, .unset, .unset, .unset, .unset, .unset, .unset, .unset, .unset] [(.int ((aa &&& (255 : Int32)).toUInt32.toUInt16.toUInt32.toInt32))]))
      refine Done.step (fun _ => XS.istore X0.here hx rfl (hb hby at_24) rfl (l' := #[.val (.int aa), .val (.int bb), .val (.int pp), .val (.int qq), .val (.int fl), .val (.int (2 : Int32)), .val (.int (1 : Int32)), .val (.int ((aa &&& (255 : Int32)).toUInt32.toUInt16.toUInt32.toInt32)), .unset, .unset, .unset, .unset, .unset, .unset, .unset, .unset, .unset, .unset, .unset]) rfl) ?_
      show Done _ p e below s _ _ (T0.setTop (mkF m 26 #[.val (.int aa), .val (.int bb), .val (.int pp), .val (.int qq), .val (.int fl), .val (.int (2 : Int32)), .val (.int (1 : Int32)), .val (.int ((aa &&& (255 : Int32)).toUInt32.toUInt16.toUInt32.toInt32)), .unset, .unset, .unset, .unset, .unset, .unset, .unset, .unset, .unset, .unset, .unset] []))
      refine Done.step (fun _ => XS.iloadN X0.here hx rfl (hb hby at_26) rfl) ?_
      show Done _ p e below s _ _ (T0.setTop (mkF m 27 #[.val (.int aa), .val (.int bb), .val (.int pp), .val (.int qq), .val (.int fl), .val (.int (2 : Int32)), .val (.int (1 : Int32)), .val (.int ((aa &&& (255 : Int32)).toUInt32.toUInt16.toUInt32.toInt32)), .unset, .unset, .unset, .unset, .unset, .unset, .unset, .unset, .unset, .unset, .unset] [(.int aa)]))
      refine Done.step (fun _ => XT.bipushV X0.here hx rfl (8 : Int32) (hb hby at_27) (by decide)) ?_
      show Done _ p e below s _ _ (T0.setTop (mkF m 29 #[.val (.int aa), .val (.int bb), .val (.int pp), .val (.int qq), .val (.int fl), .val (.int (2 : Int32)), .val (.int (1 : Int32)), .val (.int ((aa &&& (255 : Int32)).toUInt32.toUInt16.toUInt32.toInt32)), .unset, .unset, .unset, .unset, .unset, .unset, .unset, .unset, .unset, .unset, .unset] [(.int (8 : Int32)), (.int aa)]))
      refine Done.step (fun _ => XT.iushr X0.here hx rfl (hb hby at_29) rfl) ?_
      show Done _ p e below s _ _ (T0.setTop (mkF m 30 #[.val (.int aa), .val (.int bb), .val (.int pp), .val (.int qq), .val (.int fl), .val (.int (2 : Int32)), .val (.int (1 : Int32)), .val (.int ((aa &&& (255 : Int32)).toUInt32.toUInt16.toUInt32.toInt32)), .unset, .unset, .unset, .unset, .unset, .unset, .unset, .unset, .unset, .unset, .unset] [(.int ((aa.toUInt32 >>> ((8 : Int32) &&& 31).toUInt32).toInt32))]))
      refine Done.step (fun _ => XT.sipushV X0.here hx rfl (255 : Int32) (hb hby at_30) (by decide)) ?_
      show Done _ p e below s _ _ (T0.setTop (mkF m 33 #[.val (.int aa), .val (.int bb), .val (.int pp), .val (.int qq), .val (.int fl), .val (.int (2 : Int32)), .val (.int (1 : Int32)), .val (.int ((aa &&& (255 : Int32)).toUInt32.toUInt16.toUInt32.toInt32)), .unset, .unset, .unset, .unset, .unset, .unset, .unset, .unset, .unset, .unset, .unset] [(.int (255 : Int32)), (.int ((aa.toUInt32 >>> ((8 : Int32) &&& 31).toUInt32).toInt32))]))
      refine Done.step (fun _ => XS.iand X0.here hx rfl (hb hby at_33) rfl) ?_
      show Done _ p e below s _ _ (T0.setTop (mkF m 34 #[.val (.int aa), .val (.int bb), .val (.int pp), .val (.int qq), .val (.int fl), .val (.int (2 : Int32)), .val (.int (1 : Int32)), .val (.int ((aa &&& (255 : Int32)).toUInt32.toUInt16.toUInt32.toInt32)), .unset, .unset, .unset, .unset, .unset, .unset, .unset, .unset, .unset, .unset, .unset] [(.int (((aa.toUInt32 >>> ((8 : Int32) &&& 31).toUInt32).toInt32) &&& (255 : Int32)))]))
      refine Done.step (fun _ => XT.i2c X0.here hx rfl (hb hby at_34) rfl) ?_
      show Done _ p e below s _ _ (T0.setTop (mkF m 35 #[.val (.int aa), .val (.int bb), .val (.int pp), .val (.int qq), .val (.int fl), .val (.int (2 : Int32)), .val (.int (1 : Int32)), .val (.int ((aa &&& (255 : Int32)).toUInt32.toUInt16.toUInt32.toInt32)), .unset, .unset, .unset, .unset, .unset, .unset, .unset, .unset, .unset, .unset, .unset] [(.int ((((aa.toUInt32 >>> ((8 : Int32) &&& 31).toUInt32).toInt32) &&& (255 : Int32)).toUInt32.toUInt16.toUInt32.toInt32))]))
      refine Done.step (fun _ => XS.istore X0.here hx rfl (hb hby at_35) rfl (l' := #[.val (.int aa), .val (.int bb), .val (.int pp), .val (.int qq), .val (.int fl), .val (.int (2 : Int32)), .val (.int (1 : Int32)), .val (.int ((aa &&& (255 : Int32)).toUInt32.toUInt16.toUInt32.toInt32)), .val (.int ((((aa.toUInt32 >>> ((8 : Int32) &&& 31).toUInt32).toInt32) &&& (255 : Int32)).toUInt32.toUInt16.toUInt32.toInt32)), .unset, .unset, .unset, .unset, .unset, .unset, .unset, .unset, .unset, .unset]) rfl) ?_
      show Done _ p e below s _ _ (T0.setTop (mkF m 37 #[.val (.int aa), .val (.int bb), .val (.int pp), .val (.int qq), .val (.int fl), .val (.int (2 : Int32)), .val (.int (1 : Int32)), .val (.int ((aa &&& (255 : Int32)).toUInt32.toUInt16.toUInt32.toInt32)), .val (.int ((((aa.toUInt32 >>> ((8 : Int32) &&& 31).toUInt32).toInt32) &&& (255 : Int32)).toUInt32.toUInt16.toUInt32.toInt32)), .unset, .unset, .unset, .unset, .unset, .unset, .unset, .unset, .unset, .unset] []))
      have K84 : ∀ (c0 c1 d0 d1 : Int32) (bc0 : ¬ c0 < 0 ∧ ¬ (255 : Int32) < c0) (bc1 : ¬ c1 < 0 ∧ ¬ (255 : Int32) < c1) (bd0 : ¬ d0 < 0 ∧ ¬ (255 : Int32) < d0) (bd1 : ¬ d1 < 0 ∧ ¬ (255 : Int32) < d1), Done FrameEnd p e below s room_1 (LawQ n0) (T0.setTop (mkF m 84 #[.val (.int aa), .val (.int bb), .val (.int pp), .val (.int qq), .val (.int fl), .val (.int (2 : Int32)), .val (.int (1 : Int32)), .val (.int c0), .val (.int c1), .val (.int d0), .val (.int d1), .unset, .unset, .unset, .unset, .unset, .unset, .unset, .unset] [])) := by
        intro c0 c1 d0 d1 bc0 bc1 bd0 bd1
        show Done _ p e below s _ _ (T0.setTop (mkF m 84 #[.val (.int aa), .val (.int bb), .val (.int pp), .val (.int qq), .val (.int fl), .val (.int (2 : Int32)), .val (.int (1 : Int32)), .val (.int c0), .val (.int c1), .val (.int d0), .val (.int d1), .unset, .unset, .unset, .unset, .unset, .unset, .unset, .unset] []))
        refine Done.step (fun _ => XS.iload X0.here hx rfl (hb hby at_84) rfl) ?_
        show Done _ p e below s _ _ (T0.setTop (mkF m 86 #[.val (.int aa), .val (.int bb), .val (.int pp), .val (.int qq), .val (.int fl), .val (.int (2 : Int32)), .val (.int (1 : Int32)), .val (.int c0), .val (.int c1), .val (.int d0), .val (.int d1), .unset, .unset, .unset, .unset, .unset, .unset, .unset, .unset] [(.int (2 : Int32))]))
        obtain ⟨T146, h146, k146, X146, e146, E146, A146, st146⟩ := newP X0 hx hZ (wAt hw 0 rfl) e0 (g := (mkF m 86 #[.val (.int aa), .val (.int bb), .val (.int pp), .val (.int qq), .val (.int fl), .val (.int (2 : Int32)), .val (.int (1 : Int32)), .val (.int c0), .val (.int c1), .val (.int d0), .val (.int d1), .unset, .unset, .unset, .unset, .unset, .unset, .unset, .unset] [(.int (2 : Int32))])) rfl (hb hby at_86) rfl (by decide) (cap := 2) (by decide) (by decide) (by decide) (by decide)
        obtain ⟨b146, g146⟩ : ∃ z, z = h0.size := ⟨_, rfl⟩
        rw [← g146] at A146 st146
        have n0_b146 : n0 ≤ b146 := by rw [g146]; exact Z0
        have Zs146 := Nat.le_trans Z0 E146.1
        have V_b146 : Arv Z h146 b146 k146 .char (2 : Int32) [(.int (0 : Int32)), (.int (0 : Int32))] (.int (0 : Int32)) := (Arv.new A146 (by decide)).pad (pad_rep [] (.int (0 : Int32)) 2)
        refine Done.step st146 ?_
        show Done _ p e below s _ _ (T146.setTop (mkF m 88 #[.val (.int aa), .val (.int bb), .val (.int pp), .val (.int qq), .val (.int fl), .val (.int (2 : Int32)), .val (.int (1 : Int32)), .val (.int c0), .val (.int c1), .val (.int d0), .val (.int d1), .unset, .unset, .unset, .unset, .unset, .unset, .unset, .unset] [(.ref b146)]))
        refine Done.step (fun _ => XS.astore X146.here hx rfl (hb hby at_88) rfl rfl (l' := #[.val (.int aa), .val (.int bb), .val (.int pp), .val (.int qq), .val (.int fl), .val (.int (2 : Int32)), .val (.int (1 : Int32)), .val (.int c0), .val (.int c1), .val (.int d0), .val (.int d1), .val (.ref b146), .unset, .unset, .unset, .unset, .unset, .unset, .unset]) rfl) ?_
        show Done _ p e below s _ _ (T146.setTop (mkF m 90 #[.val (.int aa), .val (.int bb), .val (.int pp), .val (.int qq), .val (.int fl), .val (.int (2 : Int32)), .val (.int (1 : Int32)), .val (.int c0), .val (.int c1), .val (.int d0), .val (.int d1), .val (.ref b146), .unset, .unset, .unset, .unset, .unset, .unset, .unset] []))
        refine Done.step (fun _ => XS.aload X146.here hx rfl (hb hby at_90) rfl rfl) ?_
        show Done _ p e below s _ _ (T146.setTop (mkF m 92 #[.val (.int aa), .val (.int bb), .val (.int pp), .val (.int qq), .val (.int fl), .val (.int (2 : Int32)), .val (.int (1 : Int32)), .val (.int c0), .val (.int c1), .val (.int d0), .val (.int d1), .val (.ref b146), .unset, .unset, .unset, .unset, .unset, .unset, .unset] [(.ref b146)]))
        refine Done.step (fun _ => XT.iconstV X146.here hx rfl (0 : Int32) (hb hby at_92) (by decide)) ?_
        show Done _ p e below s _ _ (T146.setTop (mkF m 93 #[.val (.int aa), .val (.int bb), .val (.int pp), .val (.int qq), .val (.int fl), .val (.int (2 : Int32)), .val (.int (1 : Int32)), .val (.int c0), .val (.int c1), .val (.int d0), .val (.int d1), .val (.ref b146), .unset, .unset, .unset, .unset, .unset, .unset, .unset] [(.int (0 : Int32)), (.ref b146)]))
        refine Done.step (fun _ => XS.iload X146.here hx rfl (hb hby at_93) rfl) ?_
        show Done _ p e below s _ _ (T146.setTop (mkF m 95 #[.val (.int aa), .val (.int bb), .val (.int pp), .val (.int qq), .val (.int fl), .val (.int (2 : Int32)), .val (.int (1 : Int32)), .val (.int c0), .val (.int c1), .val (.int d0), .val (.int d1), .val (.ref b146), .unset, .unset, .unset, .unset, .unset, .unset, .unset] [(.int c0), (.int (0 : Int32)), (.ref b146)]))
        obtain ⟨cl147, Ar147, q147, S147, Nn147, H147, G147⟩ := V_b146
        have hin147 : ¬ ((0 : Int32) < 0 ∨ cl147.slots.size ≤ ((0 : Int32)).toNatClampNeg) := inb_of S147 ⟨by decide, by decide⟩
        obtain ⟨T147, h147, X147, e147, W147, st147⟩ := stC X146 hx hZ e146 Ar147 (j := (0 : Int32)) hin147 (g := (mkF m 95 #[.val (.int aa), .val (.int bb), .val (.int pp), .val (.int qq), .val (.int fl), .val (.int (2 : Int32)), .val (.int (1 : Int32)), .val (.int c0), .val (.int c1), .val (.int d0), .val (.int d1), .val (.ref b146), .unset, .unset, .unset, .unset, .unset, .unset, .unset] [(.int c0), (.int (0 : Int32)), (.ref b146)])) rfl rfl (hb hby at_95)
        have V147 := Arv.set Ar147 q147 S147 Nn147 H147 G147 (fits_nar_char _) W147 0 rfl (Nat.le_of_ble_eq_true rfl)
        have N147 := Fr.snoc X147 N0 n0_b146
        have Zs147 := Nat.le_trans Zs146 (Keep.of_wr W147).1
        refine Done.step st147 ?_
        show Done _ p e below s _ _ (T147.setTop (mkF m 96 #[.val (.int aa), .val (.int bb), .val (.int pp), .val (.int qq), .val (.int fl), .val (.int (2 : Int32)), .val (.int (1 : Int32)), .val (.int c0), .val (.int c1), .val (.int d0), .val (.int d1), .val (.ref b146), .unset, .unset, .unset, .unset, .unset, .unset, .unset] []))
        refine Done.step (fun _ => XS.iload X147.here hx rfl (hb hby at_96) rfl) ?_
        show Done _ p e below s _ _ (T147.setTop (mkF m 98 #[.val (.int aa), .val (.int bb), .val (.int pp), .val (.int qq), .val (.int fl), .val (.int (2 : Int32)), .val (.int (1 : Int32)), .val (.int c0), .val (.int c1), .val (.int d0), .val (.int d1), .val (.ref b146), .unset, .unset, .unset, .unset, .unset, .unset, .unset] [(.int (2 : Int32))]))
        refine Done.step (fun _ => XT.iconstV X147.here hx rfl (2 : Int32) (hb hby at_98) (by decide)) ?_
        show Done _ p e below s _ _ (T147.setTop (mkF m 99 #[.val (.int aa), .val (.int bb), .val (.int pp), .val (.int qq), .val (.int fl), .val (.int (2 : Int32)), .val (.int (1 : Int32)), .val (.int c0), .val (.int c1), .val (.int d0), .val (.int d1), .val (.ref b146), .unset, .unset, .unset, .unset, .unset, .unset, .unset] [(.int (2 : Int32)), (.int (2 : Int32))]))
        refine Done.step (fun _ => XS.icmpNo X147.here hx rfl (hb hby at_99) rfl (XT.ii_ne_f rfl)) ?_
        show Done _ p e below s _ _ (T147.setTop (mkF m 102 #[.val (.int aa), .val (.int bb), .val (.int pp), .val (.int qq), .val (.int fl), .val (.int (2 : Int32)), .val (.int (1 : Int32)), .val (.int c0), .val (.int c1), .val (.int d0), .val (.int d1), .val (.ref b146), .unset, .unset, .unset, .unset, .unset, .unset, .unset] []))
        refine Done.step (fun _ => XS.aload X147.here hx rfl (hb hby at_102) rfl rfl) ?_
        show Done _ p e below s _ _ (T147.setTop (mkF m 104 #[.val (.int aa), .val (.int bb), .val (.int pp), .val (.int qq), .val (.int fl), .val (.int (2 : Int32)), .val (.int (1 : Int32)), .val (.int c0), .val (.int c1), .val (.int d0), .val (.int d1), .val (.ref b146), .unset, .unset, .unset, .unset, .unset, .unset, .unset] [(.ref b146)]))
        refine Done.step (fun _ => XT.iconstV X147.here hx rfl (1 : Int32) (hb hby at_104) (by decide)) ?_
        show Done _ p e below s _ _ (T147.setTop (mkF m 105 #[.val (.int aa), .val (.int bb), .val (.int pp), .val (.int qq), .val (.int fl), .val (.int (2 : Int32)), .val (.int (1 : Int32)), .val (.int c0), .val (.int c1), .val (.int d0), .val (.int d1), .val (.ref b146), .unset, .unset, .unset, .unset, .unset, .unset, .unset] [(.int (1 : Int32)), (.ref b146)]))
        refine Done.step (fun _ => XS.iload X147.here hx rfl (hb hby at_105) rfl) ?_
        show Done _ p e below s _ _ (T147.setTop (mkF m 107 #[.val (.int aa), .val (.int bb), .val (.int pp), .val (.int qq), .val (.int fl), .val (.int (2 : Int32)), .val (.int (1 : Int32)), .val (.int c0), .val (.int c1), .val (.int d0), .val (.int d1), .val (.ref b146), .unset, .unset, .unset, .unset, .unset, .unset, .unset] [(.int c1), (.int (1 : Int32)), (.ref b146)]))
        obtain ⟨cl148, Ar148, q148, S148, Nn148, H148, G148⟩ := V147
        have hin148 : ¬ ((1 : Int32) < 0 ∨ cl148.slots.size ≤ ((1 : Int32)).toNatClampNeg) := inb_of S148 ⟨by decide, by decide⟩
        obtain ⟨T148, h148, X148, e148, W148, st148⟩ := stC X147 hx hZ e147 Ar148 (j := (1 : Int32)) hin148 (g := (mkF m 107 #[.val (.int aa), .val (.int bb), .val (.int pp), .val (.int qq), .val (.int fl), .val (.int (2 : Int32)), .val (.int (1 : Int32)), .val (.int c0), .val (.int c1), .val (.int d0), .val (.int d1), .val (.ref b146), .unset, .unset, .unset, .unset, .unset, .unset, .unset] [(.int c1), (.int (1 : Int32)), (.ref b146)])) rfl rfl (hb hby at_107)
        have V148 := Arv.set Ar148 q148 S148 Nn148 H148 G148 (fits_nar_char _) W148 1 rfl (Nat.le_of_ble_eq_true rfl)
        have N148 := Fr.snoc X148 N147 n0_b146
        have Zs148 := Nat.le_trans Zs147 (Keep.of_wr W148).1
        refine Done.step st148 ?_
        show Done _ p e below s _ _ (T148.setTop (mkF m 108 #[.val (.int aa), .val (.int bb), .val (.int pp), .val (.int qq), .val (.int fl), .val (.int (2 : Int32)), .val (.int (1 : Int32)), .val (.int c0), .val (.int c1), .val (.int d0), .val (.int d1), .val (.ref b146), .unset, .unset, .unset, .unset, .unset, .unset, .unset] []))
        refine Done.step (fun _ => XS.iload X148.here hx rfl (hb hby at_108) rfl) ?_
        show Done _ p e below s _ _ (T148.setTop (mkF m 110 #[.val (.int aa), .val (.int bb), .val (.int pp), .val (.int qq), .val (.int fl), .val (.int (2 : Int32)), .val (.int (1 : Int32)), .val (.int c0), .val (.int c1), .val (.int d0), .val (.int d1), .val (.ref b146), .unset, .unset, .unset, .unset, .unset, .unset, .unset] [(.int (1 : Int32))]))
        obtain ⟨T149, h149, k149, X149, e149, E149, A149, st149⟩ := newP X148 hx hZ (wAt hw 0 rfl) e148 (g := (mkF m 110 #[.val (.int aa), .val (.int bb), .val (.int pp), .val (.int qq), .val (.int fl), .val (.int (2 : Int32)), .val (.int (1 : Int32)), .val (.int c0), .val (.int c1), .val (.int d0), .val (.int d1), .val (.ref b146), .unset, .unset, .unset, .unset, .unset, .unset, .unset] [(.int (1 : Int32))])) rfl (hb hby at_110) rfl (by decide) (cap := 1) (by decide) (by decide) (by decide) (by decide)
        obtain ⟨b149, g149⟩ : ∃ z, z = h148.size := ⟨_, rfl⟩
        rw [← g149] at A149 st149
        have ne_b146_b149 : b146 ≠ b149 := by rw [g149]; exact Nat.ne_of_lt V148.lt
        have n0_b149 : n0 ≤ b149 := by rw [g149]; exact Zs148
        have Zs149 := Nat.le_trans Zs148 E149.1
        have V_b149 : Arv Z h149 b149 k149 .char (1 : Int32) [(.int (0 : Int32))] (.int (0 : Int32)) := (Arv.new A149 (by decide)).pad (pad_rep [] (.int (0 : Int32)) 1)
        refine Done.step st149 ?_
        show Done _ p e below s _ _ (T149.setTop (mkF m 112 #[.val (.int aa), .val (.int bb), .val (.int pp), .val (.int qq), .val (.int fl), .val (.int (2 : Int32)), .val (.int (1 : Int32)), .val (.int c0), .val (.int c1), .val (.int d0), .val (.int d1), .val (.ref b146), .unset, .unset, .unset, .unset, .unset, .unset, .unset] [(.ref b149)]))
        refine Done.step (fun _ => XS.astore X149.here hx rfl (hb hby at_112) rfl rfl (l' := #[.val (.int aa), .val (.int bb), .val (.int pp), .val (.int qq), .val (.int fl), .val (.int (2 : Int32)), .val (.int (1 : Int32)), .val (.int c0), .val (.int c1), .val (.int d0), .val (.int d1), .val (.ref b146), .val (.ref b149), .unset, .unset, .unset, .unset, .unset, .unset]) rfl) ?_
        show Done _ p e below s _ _ (T149.setTop (mkF m 114 #[.val (.int aa), .val (.int bb), .val (.int pp), .val (.int qq), .val (.int fl), .val (.int (2 : Int32)), .val (.int (1 : Int32)), .val (.int c0), .val (.int c1), .val (.int d0), .val (.int d1), .val (.ref b146), .val (.ref b149), .unset, .unset, .unset, .unset, .unset, .unset] []))
        refine Done.step (fun _ => XS.aload X149.here hx rfl (hb hby at_114) rfl rfl) ?_
        show Done _ p e below s _ _ (T149.setTop (mkF m 116 #[.val (.int aa), .val (.int bb), .val (.int pp), .val (.int qq), .val (.int fl), .val (.int (2 : Int32)), .val (.int (1 : Int32)), .val (.int c0), .val (.int c1), .val (.int d0), .val (.int d1), .val (.ref b146), .val (.ref b149), .unset, .unset, .unset, .unset, .unset, .unset] [(.ref b149)]))
        refine Done.step (fun _ => XT.iconstV X149.here hx rfl (0 : Int32) (hb hby at_116) (by decide)) ?_
        show Done _ p e below s _ _ (T149.setTop (mkF m 117 #[.val (.int aa), .val (.int bb), .val (.int pp), .val (.int qq), .val (.int fl), .val (.int (2 : Int32)), .val (.int (1 : Int32)), .val (.int c0), .val (.int c1), .val (.int d0), .val (.int d1), .val (.ref b146), .val (.ref b149), .unset, .unset, .unset, .unset, .unset, .unset] [(.int (0 : Int32)), (.ref b149)]))
        refine Done.step (fun _ => XS.iload X149.here hx rfl (hb hby at_117) rfl) ?_
        show Done _ p e below s _ _ (T149.setTop (mkF m 119 #[.val (.int aa), .val (.int bb), .val (.int pp), .val (.int qq), .val (.int fl), .val (.int (2 : Int32)), .val (.int (1 : Int32)), .val (.int c0), .val (.int c1), .val (.int d0), .val (.int d1), .val (.ref b146), .val (.ref b149), .unset, .unset, .unset, .unset, .unset, .unset] [(.int d0), (.int (0 : Int32)), (.ref b149)]))
        obtain ⟨cl150, Ar150, q150, S150, Nn150, H150, G150⟩ := V_b149
        have hin150 : ¬ ((0 : Int32) < 0 ∨ cl150.slots.size ≤ ((0 : Int32)).toNatClampNeg) := inb_of S150 ⟨by decide, by decide⟩
        obtain ⟨T150, h150, X150, e150, W150, st150⟩ := stC X149 hx hZ e149 Ar150 (j := (0 : Int32)) hin150 (g := (mkF m 119 #[.val (.int aa), .val (.int bb), .val (.int pp), .val (.int qq), .val (.int fl), .val (.int (2 : Int32)), .val (.int (1 : Int32)), .val (.int c0), .val (.int c1), .val (.int d0), .val (.int d1), .val (.ref b146), .val (.ref b149), .unset, .unset, .unset, .unset, .unset, .unset] [(.int d0), (.int (0 : Int32)), (.ref b149)])) rfl rfl (hb hby at_119)
        have V150 := Arv.set Ar150 q150 S150 Nn150 H150 G150 (fits_nar_char _) W150 0 rfl (Nat.le_of_ble_eq_true rfl)
        have N150 := Fr.snoc X150 N148 n0_b149
        have Zs150 := Nat.le_trans Zs149 (Keep.of_wr W150).1
        refine Done.step st150 ?_
        show Done _ p e below s _ _ (T150.setTop (mkF m 120 #[.val (.int aa), .val (.int bb), .val (.int pp), .val (.int qq), .val (.int fl), .val (.int (2 : Int32)), .val (.int (1 : Int32)), .val (.int c0), .val (.int c1), .val (.int d0), .val (.int d1), .val (.ref b146), .val (.ref b149), .unset, .unset, .unset, .unset, .unset, .unset] []))
        refine Done.step (fun _ => XS.iload X150.here hx rfl (hb hby at_120) rfl) ?_
        show Done _ p e below s _ _ (T150.setTop (mkF m 122 #[.val (.int aa), .val (.int bb), .val (.int pp), .val (.int qq), .val (.int fl), .val (.int (2 : Int32)), .val (.int (1 : Int32)), .val (.int c0), .val (.int c1), .val (.int d0), .val (.int d1), .val (.ref b146), .val (.ref b149), .unset, .unset, .unset, .unset, .unset, .unset] [(.int (1 : Int32))]))
        refine Done.step (fun _ => XT.iconstV X150.here hx rfl (2 : Int32) (hb hby at_122) (by decide)) ?_
        show Done _ p e below s _ _ (T150.setTop (mkF m 123 #[.val (.int aa), .val (.int bb), .val (.int pp), .val (.int qq), .val (.int fl), .val (.int (2 : Int32)), .val (.int (1 : Int32)), .val (.int c0), .val (.int c1), .val (.int d0), .val (.int d1), .val (.ref b146), .val (.ref b149), .unset, .unset, .unset, .unset, .unset, .unset] [(.int (2 : Int32)), (.int (1 : Int32))]))
        refine Done.step (fun _ => XS.icmpYes X150.here hx rfl (pc0 := 123) (pc' := 132) rfl (hb hby at_123) rfl (XT.ii_ne_t (by decide)) (by decide) (by decide)) ?_
        show Done _ p e below s _ _ (T150.setTop (mkF m 132 #[.val (.int aa), .val (.int bb), .val (.int pp), .val (.int qq), .val (.int fl), .val (.int (2 : Int32)), .val (.int (1 : Int32)), .val (.int c0), .val (.int c1), .val (.int d0), .val (.int d1), .val (.ref b146), .val (.ref b149), .unset, .unset, .unset, .unset, .unset, .unset] []))
        refine Done.step (fun _ => XS.iloadN X150.here hx rfl (hb hby at_132) rfl) ?_
        show Done _ p e below s _ _ (T150.setTop (mkF m 133 #[.val (.int aa), .val (.int bb), .val (.int pp), .val (.int qq), .val (.int fl), .val (.int (2 : Int32)), .val (.int (1 : Int32)), .val (.int c0), .val (.int c1), .val (.int d0), .val (.int d1), .val (.ref b146), .val (.ref b149), .unset, .unset, .unset, .unset, .unset, .unset] [(.int pp)]))
        refine Done.step (fun _ => Stand.ldcI X150 hx hown (mvT hZ (wAt hw 1 rfl)) (g := (mkF m 133 #[.val (.int aa), .val (.int bb), .val (.int pp), .val (.int qq), .val (.int fl), .val (.int (2 : Int32)), .val (.int (1 : Int32)), .val (.int c0), .val (.int c1), .val (.int d0), .val (.int d1), .val (.ref b146), .val (.ref b149), .unset, .unset, .unset, .unset, .unset, .unset] [(.int pp)])) rfl (hb hby at_133)) ?_
        show Done _ p e below s _ _ (T150.setTop (mkF m 135 #[.val (.int aa), .val (.int bb), .val (.int pp), .val (.int qq), .val (.int fl), .val (.int (2 : Int32)), .val (.int (1 : Int32)), .val (.int c0), .val (.int c1), .val (.int d0), .val (.int d1), .val (.ref b146), .val (.ref b149), .unset, .unset, .unset, .unset, .unset, .unset] [(.int (2147483647 : Int32)), (.int pp)]))
        refine Done.step (fun _ => XS.iand X150.here hx rfl (hb hby at_135) rfl) ?_
        show Done _ p e below s _ _ (T150.setTop (mkF m 136 #[.val (.int aa), .val (.int bb), .val (.int pp), .val (.int qq), .val (.int fl), .val (.int (2 : Int32)), .val (.int (1 : Int32)), .val (.int c0), .val (.int c1), .val (.int d0), .val (.int d1), .val (.ref b146), .val (.ref b149), .unset, .unset, .unset, .unset, .unset, .unset] [(.int (pp &&& (2147483647 : Int32)))]))
        refine Done.step (fun _ => Stand.ldcI X150 hx hown (mvT hZ (wAt hw 2 rfl)) (g := (mkF m 136 #[.val (.int aa), .val (.int bb), .val (.int pp), .val (.int qq), .val (.int fl), .val (.int (2 : Int32)), .val (.int (1 : Int32)), .val (.int c0), .val (.int c1), .val (.int d0), .val (.int d1), .val (.ref b146), .val (.ref b149), .unset, .unset, .unset, .unset, .unset, .unset] [(.int (pp &&& (2147483647 : Int32)))])) rfl (hb hby at_136)) ?_
        show Done _ p e below s _ _ (T150.setTop (mkF m 138 #[.val (.int aa), .val (.int bb), .val (.int pp), .val (.int qq), .val (.int fl), .val (.int (2 : Int32)), .val (.int (1 : Int32)), .val (.int c0), .val (.int c1), .val (.int d0), .val (.int d1), .val (.ref b146), .val (.ref b149), .unset, .unset, .unset, .unset, .unset, .unset] [(.int (65535 : Int32)), (.int (pp &&& (2147483647 : Int32)))]))
        refine Done.step (fun _ => iremM X150 hx rfl (hb hby at_138) rfl (by decide)) ?_
        show Done _ p e below s _ _ (T150.setTop (mkF m 139 #[.val (.int aa), .val (.int bb), .val (.int pp), .val (.int qq), .val (.int fl), .val (.int (2 : Int32)), .val (.int (1 : Int32)), .val (.int c0), .val (.int c1), .val (.int d0), .val (.int d1), .val (.ref b146), .val (.ref b149), .unset, .unset, .unset, .unset, .unset, .unset] [(.int ((pp &&& (2147483647 : Int32)) % (65535 : Int32)))]))
        refine Done.step (fun _ => XT.iconstV X150.here hx rfl (1 : Int32) (hb hby at_139) (by decide)) ?_
        show Done _ p e below s _ _ (T150.setTop (mkF m 140 #[.val (.int aa), .val (.int bb), .val (.int pp), .val (.int qq), .val (.int fl), .val (.int (2 : Int32)), .val (.int (1 : Int32)), .val (.int c0), .val (.int c1), .val (.int d0), .val (.int d1), .val (.ref b146), .val (.ref b149), .unset, .unset, .unset, .unset, .unset, .unset] [(.int (1 : Int32)), (.int ((pp &&& (2147483647 : Int32)) % (65535 : Int32)))]))
        refine Done.step (fun _ => XS.iadd X150.here hx rfl (hb hby at_140) rfl) ?_
        show Done _ p e below s _ _ (T150.setTop (mkF m 141 #[.val (.int aa), .val (.int bb), .val (.int pp), .val (.int qq), .val (.int fl), .val (.int (2 : Int32)), .val (.int (1 : Int32)), .val (.int c0), .val (.int c1), .val (.int d0), .val (.int d1), .val (.ref b146), .val (.ref b149), .unset, .unset, .unset, .unset, .unset, .unset] [(.int (((pp &&& (2147483647 : Int32)) % (65535 : Int32)) + (1 : Int32)))]))
        refine Done.step (fun _ => XS.istore X150.here hx rfl (hb hby at_141) rfl (l' := #[.val (.int aa), .val (.int bb), .val (.int pp), .val (.int qq), .val (.int fl), .val (.int (2 : Int32)), .val (.int (1 : Int32)), .val (.int c0), .val (.int c1), .val (.int d0), .val (.int d1), .val (.ref b146), .val (.ref b149), .val (.int (((pp &&& (2147483647 : Int32)) % (65535 : Int32)) + (1 : Int32))), .unset, .unset, .unset, .unset, .unset]) rfl) ?_
        show Done _ p e below s _ _ (T150.setTop (mkF m 143 #[.val (.int aa), .val (.int bb), .val (.int pp), .val (.int qq), .val (.int fl), .val (.int (2 : Int32)), .val (.int (1 : Int32)), .val (.int c0), .val (.int c1), .val (.int d0), .val (.int d1), .val (.ref b146), .val (.ref b149), .val (.int (((pp &&& (2147483647 : Int32)) % (65535 : Int32)) + (1 : Int32))), .unset, .unset, .unset, .unset, .unset] []))
        have hport1 := own_port pp
        have K168 : ∀ (q2 : Int32) (hq1 : ¬ q2 < (1 : Int32)) (hq2 : ¬ (65535 : Int32) < q2), Done FrameEnd p e below s room_1 (LawQ n0) (T150.setTop (mkF m 168 #[.val (.int aa), .val (.int bb), .val (.int pp), .val (.int qq), .val (.int fl), .val (.int (2 : Int32)), .val (.int (1 : Int32)), .val (.int c0), .val (.int c1), .val (.int d0), .val (.int d1), .val (.ref b146), .val (.ref b149), .val (.int (((pp &&& (2147483647 : Int32)) % (65535 : Int32)) + (1 : Int32))), .val (.int q2), .unset, .unset, .unset, .unset] [])) := by
          intro q2 hq1 hq2
          show Done _ p e below s _ _ (T150.setTop (mkF m 168 #[.val (.int aa), .val (.int bb), .val (.int pp), .val (.int qq), .val (.int fl), .val (.int (2 : Int32)), .val (.int (1 : Int32)), .val (.int c0), .val (.int c1), .val (.int d0), .val (.int d1), .val (.ref b146), .val (.ref b149), .val (.int (((pp &&& (2147483647 : Int32)) % (65535 : Int32)) + (1 : Int32))), .val (.int q2), .unset, .unset, .unset, .unset] []))
          obtain ⟨T151, h151, X151, e151, E151, A151, D151, -, st151⟩ := newO X150 hx hZ hown (wAt hw 3 rfl) (wAt hw 4 rfl) (wAt hw 5 rfl) e150 (g := (mkF m 168 #[.val (.int aa), .val (.int bb), .val (.int pp), .val (.int qq), .val (.int fl), .val (.int (2 : Int32)), .val (.int (1 : Int32)), .val (.int c0), .val (.int c1), .val (.int d0), .val (.int d1), .val (.ref b146), .val (.ref b149), .val (.int (((pp &&& (2147483647 : Int32)) % (65535 : Int32)) + (1 : Int32))), .val (.int q2), .unset, .unset, .unset, .unset] [])) rfl (hb hby at_168) (by decide) (by decide)
          obtain ⟨b151, g151⟩ : ∃ z, z = h150.size := ⟨_, rfl⟩
          rw [← g151] at A151 D151 st151
          have f152 := ((V148.ext E149).other W150 ne_b146_b149)
          have ne_b146_b151 : b146 ≠ b151 := by rw [g151]; exact Nat.ne_of_lt f152.lt
          have ne_b149_b151 : b149 ≠ b151 := by rw [g151]; exact Nat.ne_of_lt V150.lt
          have n0_b151 : n0 ≤ b151 := by rw [g151]; exact Zs150
          have Zs151 := Nat.le_trans Zs150 E151.1
          have F_m_host_b151 : Fld Z h151 b151 "com/example/minho/minho/core/Address" "m_host" "Ljava/lang/String;" .null := D151 (Or.inr (wAt hw 46 rfl)) (ty := (.object "java/lang/String")) (by decide)
          have F_m_port_b151 : Fld Z h151 b151 "com/example/minho/minho/core/Address" "m_port" "I" (.int (0 : Int32)) := D151 (Or.inr (wAt hw 48 rfl)) (ty := .int) (by decide)
          refine Done.step st151 ?_
          show Done _ p e below s _ _ (T151.setTop (mkF m 171 #[.val (.int aa), .val (.int bb), .val (.int pp), .val (.int qq), .val (.int fl), .val (.int (2 : Int32)), .val (.int (1 : Int32)), .val (.int c0), .val (.int c1), .val (.int d0), .val (.int d1), .val (.ref b146), .val (.ref b149), .val (.int (((pp &&& (2147483647 : Int32)) % (65535 : Int32)) + (1 : Int32))), .val (.int q2), .unset, .unset, .unset, .unset] [(.ref b151)]))
          refine Done.step (fun _ => XS.dup X151.here hx rfl (hb hby at_171) rfl rfl) ?_
          show Done _ p e below s _ _ (T151.setTop (mkF m 172 #[.val (.int aa), .val (.int bb), .val (.int pp), .val (.int qq), .val (.int fl), .val (.int (2 : Int32)), .val (.int (1 : Int32)), .val (.int c0), .val (.int c1), .val (.int d0), .val (.int d1), .val (.ref b146), .val (.ref b149), .val (.int (((pp &&& (2147483647 : Int32)) % (65535 : Int32)) + (1 : Int32))), .val (.int q2), .unset, .unset, .unset, .unset] [(.ref b151), (.ref b151)]))
          obtain ⟨T153, h153, X153, e153, E153, A153, D153, -, st153⟩ := newO X151 hx hZ hown (wAt hw 6 rfl) (wAt hw 7 rfl) (wAt hw 8 rfl) e151 (g := (mkF m 172 #[.val (.int aa), .val (.int bb), .val (.int pp), .val (.int qq), .val (.int fl), .val (.int (2 : Int32)), .val (.int (1 : Int32)), .val (.int c0), .val (.int c1), .val (.int d0), .val (.int d1), .val (.ref b146), .val (.ref b149), .val (.int (((pp &&& (2147483647 : Int32)) % (65535 : Int32)) + (1 : Int32))), .val (.int q2), .unset, .unset, .unset, .unset] [(.ref b151), (.ref b151)])) rfl (hb hby at_172) (by decide) (by decide)
          obtain ⟨b153, g153⟩ : ∃ z, z = h151.size := ⟨_, rfl⟩
          rw [← g153] at A153 D153 st153
          have f154 := (f152.ext E151)
          have ne_b146_b153 : b146 ≠ b153 := by rw [g153]; exact Nat.ne_of_lt f154.lt
          have f155 := (V150.ext E151)
          have ne_b149_b153 : b149 ≠ b153 := by rw [g153]; exact Nat.ne_of_lt f155.lt
          have ne_b151_b153 : b151 ≠ b153 := by rw [g153]; exact Nat.ne_of_lt A151.lt
          have n0_b153 : n0 ≤ b153 := by rw [g153]; exact Zs151
          have Zs153 := Nat.le_trans Zs151 E153.1
          have F_coder_b153 : Fld Z h153 b153 "java/lang/String" "coder" "B" (.int (0 : Int32)) := D153 (Or.inr (wAt hw 32 rfl)) (ty := .byte) (by decide)
          have F_value_b153 : Fld Z h153 b153 "java/lang/String" "value" "[B" .null := D153 (Or.inr (wAt hw 34 rfl)) (ty := (.array .byte)) (by decide)
          refine Done.step st153 ?_
          show Done _ p e below s _ _ (T153.setTop (mkF m 175 #[.val (.int aa), .val (.int bb), .val (.int pp), .val (.int qq), .val (.int fl), .val (.int (2 : Int32)), .val (.int (1 : Int32)), .val (.int c0), .val (.int c1), .val (.int d0), .val (.int d1), .val (.ref b146), .val (.ref b149), .val (.int (((pp &&& (2147483647 : Int32)) % (65535 : Int32)) + (1 : Int32))), .val (.int q2), .unset, .unset, .unset, .unset] [(.ref b153), (.ref b151), (.ref b151)]))
          refine Done.step (fun _ => XS.dup X153.here hx rfl (hb hby at_175) rfl rfl) ?_
          show Done _ p e below s _ _ (T153.setTop (mkF m 176 #[.val (.int aa), .val (.int bb), .val (.int pp), .val (.int qq), .val (.int fl), .val (.int (2 : Int32)), .val (.int (1 : Int32)), .val (.int c0), .val (.int c1), .val (.int d0), .val (.int d1), .val (.ref b146), .val (.ref b149), .val (.int (((pp &&& (2147483647 : Int32)) % (65535 : Int32)) + (1 : Int32))), .val (.int q2), .unset, .unset, .unset, .unset] [(.ref b153), (.ref b153), (.ref b151), (.ref b151)]))
          refine Done.step (fun _ => XS.aload X153.here hx rfl (hb hby at_176) rfl rfl) ?_
          show Done _ p e below s _ _ (T153.setTop (mkF m 178 #[.val (.int aa), .val (.int bb), .val (.int pp), .val (.int qq), .val (.int fl), .val (.int (2 : Int32)), .val (.int (1 : Int32)), .val (.int c0), .val (.int c1), .val (.int d0), .val (.int d1), .val (.ref b146), .val (.ref b149), .val (.int (((pp &&& (2147483647 : Int32)) % (65535 : Int32)) + (1 : Int32))), .val (.int q2), .unset, .unset, .unset, .unset] [(.ref b146), (.ref b153), (.ref b153), (.ref b151), (.ref b151)]))
          have f157 := (f154.ext E153)
          have Vs156 : Arv Z h153 b146 k146 .char (2 : Int32) (([nar .char c0, nar .char c1] : List Int32).map Value.int) (.int (0 : Int32)) := f157
          rw [own_nar bc0.1 (own_up [c0] (by intro c hc; cases List.mem_singleton.mp hc; exact bc0) _ (List.mem_singleton.mpr rfl)).2, own_nar bc1.1 (own_up [c1] (by intro c hc; cases List.mem_singleton.mp hc; exact bc1) _ (List.mem_singleton.mpr rfl)).2] at Vs156
          have hp158 : ∀ c ∈ ([c0, c1] : List Int32), ¬ c < 0 ∧ ¬ (255 : Int32) < c := (by intro c hc; simp only [List.mem_cons, List.not_mem_nil, or_false] at hc; rcases hc with rfl | rfl <;> assumption)
          have hbd158 := own_up _ hp158
          have f159 := (((((((O0.ext E146).wr W147 n0_b146).wr W148 n0_b146).ext E149).wr W150 n0_b149).ext E151).ext E153)
          refine Done.callIB (nc := 1) (ns := 2) X153 hx hZ rfl hown (wAt hw 9 rfl) (wAt hw 10 rfl) (wAt hw 11 rfl) (by decide) (StrChars.Road.backV (W := 3) hZ (own_hws hw) (kI := 4) (wAt hw 7 rfl) (cs := ([c0, c1] : List Int32)) (bs := ((([c0, c1] : List Int32)).map (fun c => c.toInt8.toInt32))) (n := 2) n0_b153 Zs153 A153 F_value_b153 F_coder_b153 Vs156 (SC.ext f159.2) hz rfl rfl (by decide) (by decide) hp158 rfl (by decide) (by decide)) e153 (g := (mkF m 178 #[.val (.int aa), .val (.int bb), .val (.int pp), .val (.int qq), .val (.int fl), .val (.int (2 : Int32)), .val (.int (1 : Int32)), .val (.int c0), .val (.int c1), .val (.int d0), .val (.int d1), .val (.ref b146), .val (.ref b149), .val (.int (((pp &&& (2147483647 : Int32)) % (65535 : Int32)) + (1 : Int32))), .val (.int q2), .unset, .unset, .unset, .unset] [(.ref b146), (.ref b153), (.ref b153), (.ref b151), (.ref b151)])) rfl (by rw [hml]; rfl) b153 [(.ref b146)] [(.ref b153), (.ref b151), (.ref b151)] (lenOf pd_4 rfl) rfl rfl (by show 2 * 0 + _ ≤ _; exact Nat.le_of_eq rfl) (hb hby at_178) (by decide) (by decide) ?_
          intro T158 v158 L158 X158 q158
          obtain ⟨rfl, Nq158, K158q, Eq158, Cq158, t158, kb158, n0_t158, szt158, net158, Vq158, Aq158⟩ := q158
          have ne_b146_t158 : b146 ≠ t158 := Nat.ne_of_lt (Nat.lt_of_lt_of_le f157.lt szt158)
          have f160 := (f155.ext E153)
          have ne_b149_t158 : b149 ≠ t158 := Nat.ne_of_lt (Nat.lt_of_lt_of_le f160.lt szt158)
          have f161 := (A151.ext E153)
          have ne_b151_t158 : b151 ≠ t158 := Nat.ne_of_lt (Nat.lt_of_lt_of_le f161.lt szt158)
          have ne_b153_t158 : b153 ≠ t158 := Ne.symm net158
          have N158 := Fr.app N150 Nq158
          have Zs158 := Nat.le_trans Zs153 K158q.1
          have hcd158 : StrChars.Road.CodA ([c0, c1] : List Int32) 0 (2 : Int32) ((((([c0, c1] : List Int32)).map (fun c => c.toInt8.toInt32))).map Value.int) := StrChars.Road.codOf (n := 2) rfl (fun c hc => (hp158 c hc).2)
          show Done _ p e below s _ _ (T158.setTop (mkF m 181 #[.val (.int aa), .val (.int bb), .val (.int pp), .val (.int qq), .val (.int fl), .val (.int (2 : Int32)), .val (.int (1 : Int32)), .val (.int c0), .val (.int c1), .val (.int d0), .val (.int d1), .val (.ref b146), .val (.ref b149), .val (.int (((pp &&& (2147483647 : Int32)) % (65535 : Int32)) + (1 : Int32))), .val (.int q2), .unset, .unset, .unset, .unset] [(.ref b153), (.ref b151), (.ref b151)]))
          refine Done.step (fun _ => XS.iload X158.here hx rfl (hb hby at_181) rfl) ?_
          show Done _ p e below s _ _ (T158.setTop (mkF m 183 #[.val (.int aa), .val (.int bb), .val (.int pp), .val (.int qq), .val (.int fl), .val (.int (2 : Int32)), .val (.int (1 : Int32)), .val (.int c0), .val (.int c1), .val (.int d0), .val (.int d1), .val (.ref b146), .val (.ref b149), .val (.int (((pp &&& (2147483647 : Int32)) % (65535 : Int32)) + (1 : Int32))), .val (.int q2), .unset, .unset, .unset, .unset] [(.int (((pp &&& (2147483647 : Int32)) % (65535 : Int32)) + (1 : Int32))), (.ref b153), (.ref b151), (.ref b151)]))
          have f162 := (f161.keep K158q)
          have f163 := ((F_m_host_b151.ext E153).keep K158q (ninS ne_b151_b153 nin0))
          have f164 := ((F_m_port_b151.ext E153).keep K158q (ninS ne_b151_b153 nin0))
          have f165 := (f159.keep K158q (allS n0_b153 all0))
          refine Done.callI X158 hx hZ rfl hown (wAt hw 35 rfl) (wAt hw 36 rfl) (wAt hw 5 rfl) (wAt hw 37 rfl) (by decide) (rmA l Z a0 hw [] b151 b153 t158 kb158 ([c0, c1] : List Int32) 0 (2 : Int32) ((((([c0, c1] : List Int32)).map (fun c => c.toInt8.toInt32))).map Value.int) (((pp &&& (2147483647 : Int32)) % (65535 : Int32)) + (1 : Int32)) z T158.heap n0 Zs158 f162 f163 f164 n0_b151 Eq158 Vq158 Cq158 Aq158 hcd158 hbd158 (Nat.le_of_ble_eq_true rfl) ne_b151_b153 ne_b151_t158 f165 SC hz (Nat.succ_ne_zero _) hport1.1 hport1.2) (fun _ _ => trivial) rfl (g := (mkF m 183 #[.val (.int aa), .val (.int bb), .val (.int pp), .val (.int qq), .val (.int fl), .val (.int (2 : Int32)), .val (.int (1 : Int32)), .val (.int c0), .val (.int c1), .val (.int d0), .val (.int d1), .val (.ref b146), .val (.ref b149), .val (.int (((pp &&& (2147483647 : Int32)) % (65535 : Int32)) + (1 : Int32))), .val (.int q2), .unset, .unset, .unset, .unset] [(.int (((pp &&& (2147483647 : Int32)) % (65535 : Int32)) + (1 : Int32))), (.ref b153), (.ref b151), (.ref b151)])) rfl (by rw [hml]; rfl) b151 [(.ref b153), (.int (((pp &&& (2147483647 : Int32)) % (65535 : Int32)) + (1 : Int32)))] [(.ref b151)] 1 (lenOf pd_5 rfl) rfl rfl (by show 2 * 0 + _ ≤ _; exact Nat.le_of_eq rfl) (hb hby at_183) (by decide) (by decide) (by decide) (by decide) ?_
          intro T166 v166 L166 X166 q166
          obtain ⟨rfl, Nq166, K166q, f166_0, f166_1, f166_2⟩ := q166
          have N166 := Fr.app N158 Nq166
          have Zs166 := Nat.le_trans Zs158 K166q.1
          show Done _ p e below s _ _ (T166.setTop (mkF m 186 #[.val (.int aa), .val (.int bb), .val (.int pp), .val (.int qq), .val (.int fl), .val (.int (2 : Int32)), .val (.int (1 : Int32)), .val (.int c0), .val (.int c1), .val (.int d0), .val (.int d1), .val (.ref b146), .val (.ref b149), .val (.int (((pp &&& (2147483647 : Int32)) % (65535 : Int32)) + (1 : Int32))), .val (.int q2), .unset, .unset, .unset, .unset] [(.ref b151)]))
          refine Done.step (fun _ => XS.astore X166.here hx rfl (hb hby at_186) rfl rfl (l' := #[.val (.int aa), .val (.int bb), .val (.int pp), .val (.int qq), .val (.int fl), .val (.int (2 : Int32)), .val (.int (1 : Int32)), .val (.int c0), .val (.int c1), .val (.int d0), .val (.int d1), .val (.ref b146), .val (.ref b149), .val (.int (((pp &&& (2147483647 : Int32)) % (65535 : Int32)) + (1 : Int32))), .val (.int q2), .val (.ref b151), .unset, .unset, .unset]) rfl) ?_
          show Done _ p e below s _ _ (T166.setTop (mkF m 188 #[.val (.int aa), .val (.int bb), .val (.int pp), .val (.int qq), .val (.int fl), .val (.int (2 : Int32)), .val (.int (1 : Int32)), .val (.int c0), .val (.int c1), .val (.int d0), .val (.int d1), .val (.ref b146), .val (.ref b149), .val (.int (((pp &&& (2147483647 : Int32)) % (65535 : Int32)) + (1 : Int32))), .val (.int q2), .val (.ref b151), .unset, .unset, .unset] []))
          obtain ⟨T167, h167, X167, e167, E167, A167, D167, -, st167⟩ := newO X166 hx hZ hown (wAt hw 3 rfl) (wAt hw 4 rfl) (wAt hw 5 rfl) rfl (g := (mkF m 188 #[.val (.int aa), .val (.int bb), .val (.int pp), .val (.int qq), .val (.int fl), .val (.int (2 : Int32)), .val (.int (1 : Int32)), .val (.int c0), .val (.int c1), .val (.int d0), .val (.int d1), .val (.ref b146), .val (.ref b149), .val (.int (((pp &&& (2147483647 : Int32)) % (65535 : Int32)) + (1 : Int32))), .val (.int q2), .val (.ref b151), .unset, .unset, .unset] [])) rfl (hb hby at_188) (by decide) (by decide)
          obtain ⟨b167, g167⟩ : ∃ z, z = T166.heap.size := ⟨_, rfl⟩
          rw [← g167] at A167 D167 st167
          have f168 := ((f157.keep K158q (ninS ne_b146_b153 nin0)).keep K166q (ninS ne_b146_b151 nin0))
          have ne_b146_b167 : b146 ≠ b167 := by rw [g167]; exact Nat.ne_of_lt f168.lt
          have f169 := ((f160.keep K158q (ninS ne_b149_b153 nin0)).keep K166q (ninS ne_b149_b151 nin0))
          have ne_b149_b167 : b149 ≠ b167 := by rw [g167]; exact Nat.ne_of_lt f169.lt
          have ne_b151_b167 : b151 ≠ b167 := by rw [g167]; exact Nat.ne_of_lt f166_0.lt
          have f170 := (Eq158.keep K166q)
          have ne_b153_b167 : b153 ≠ b167 := by rw [g167]; exact Nat.ne_of_lt f170.lt
          have f171 := (Aq158.keep K166q (ninS (Ne.symm ne_b151_t158) nin0))
          have ne_t158_b167 : t158 ≠ b167 := by rw [g167]; exact Nat.ne_of_lt f171.lt
          have n0_b167 : n0 ≤ b167 := by rw [g167]; exact Zs166
          have Zs167 := Nat.le_trans Zs166 E167.1
          have F_m_host_b167 : Fld Z h167 b167 "com/example/minho/minho/core/Address" "m_host" "Ljava/lang/String;" .null := D167 (Or.inr (wAt hw 46 rfl)) (ty := (.object "java/lang/String")) (by decide)
          have F_m_port_b167 : Fld Z h167 b167 "com/example/minho/minho/core/Address" "m_port" "I" (.int (0 : Int32)) := D167 (Or.inr (wAt hw 48 rfl)) (ty := .int) (by decide)
          refine Done.step st167 ?_
          show Done _ p e below s _ _ (T167.setTop (mkF m 191 #[.val (.int aa), .val (.int bb), .val (.int pp), .val (.int qq), .val (.int fl), .val (.int (2 : Int32)), .val (.int (1 : Int32)), .val (.int c0), .val (.int c1), .val (.int d0), .val (.int d1), .val (.ref b146), .val (.ref b149), .val (.int (((pp &&& (2147483647 : Int32)) % (65535 : Int32)) + (1 : Int32))), .val (.int q2), .val (.ref b151), .unset, .unset, .unset] [(.ref b167)]))
          refine Done.step (fun _ => XS.dup X167.here hx rfl (hb hby at_191) rfl rfl) ?_
          show Done _ p e below s _ _ (T167.setTop (mkF m 192 #[.val (.int aa), .val (.int bb), .val (.int pp), .val (.int qq), .val (.int fl), .val (.int (2 : Int32)), .val (.int (1 : Int32)), .val (.int c0), .val (.int c1), .val (.int d0), .val (.int d1), .val (.ref b146), .val (.ref b149), .val (.int (((pp &&& (2147483647 : Int32)) % (65535 : Int32)) + (1 : Int32))), .val (.int q2), .val (.ref b151), .unset, .unset, .unset] [(.ref b167), (.ref b167)]))
          obtain ⟨T172, h172, X172, e172, E172, A172, D172, -, st172⟩ := newO X167 hx hZ hown (wAt hw 6 rfl) (wAt hw 7 rfl) (wAt hw 8 rfl) e167 (g := (mkF m 192 #[.val (.int aa), .val (.int bb), .val (.int pp), .val (.int qq), .val (.int fl), .val (.int (2 : Int32)), .val (.int (1 : Int32)), .val (.int c0), .val (.int c1), .val (.int d0), .val (.int d1), .val (.ref b146), .val (.ref b149), .val (.int (((pp &&& (2147483647 : Int32)) % (65535 : Int32)) + (1 : Int32))), .val (.int q2), .val (.ref b151), .unset, .unset, .unset] [(.ref b167), (.ref b167)])) rfl (hb hby at_192) (by decide) (by decide)
          obtain ⟨b172, g172⟩ : ∃ z, z = h167.size := ⟨_, rfl⟩
          rw [← g172] at A172 D172 st172
          have f173 := (f168.ext E167)
          have ne_b146_b172 : b146 ≠ b172 := by rw [g172]; exact Nat.ne_of_lt f173.lt
          have f174 := (f169.ext E167)
          have ne_b149_b172 : b149 ≠ b172 := by rw [g172]; exact Nat.ne_of_lt f174.lt
          have f175 := (f166_0.ext E167)
          have ne_b151_b172 : b151 ≠ b172 := by rw [g172]; exact Nat.ne_of_lt f175.lt
          have f176 := (f170.ext E167)
          have ne_b153_b172 : b153 ≠ b172 := by rw [g172]; exact Nat.ne_of_lt f176.lt
          have f177 := (f171.ext E167)
          have ne_t158_b172 : t158 ≠ b172 := by rw [g172]; exact Nat.ne_of_lt f177.lt
          have ne_b167_b172 : b167 ≠ b172 := by rw [g172]; exact Nat.ne_of_lt A167.lt
          have n0_b172 : n0 ≤ b172 := by rw [g172]; exact Zs167
          have Zs172 := Nat.le_trans Zs167 E172.1
          have F_coder_b172 : Fld Z h172 b172 "java/lang/String" "coder" "B" (.int (0 : Int32)) := D172 (Or.inr (wAt hw 32 rfl)) (ty := .byte) (by decide)
          have F_value_b172 : Fld Z h172 b172 "java/lang/String" "value" "[B" .null := D172 (Or.inr (wAt hw 34 rfl)) (ty := (.array .byte)) (by decide)
          refine Done.step st172 ?_
          show Done _ p e below s _ _ (T172.setTop (mkF m 195 #[.val (.int aa), .val (.int bb), .val (.int pp), .val (.int qq), .val (.int fl), .val (.int (2 : Int32)), .val (.int (1 : Int32)), .val (.int c0), .val (.int c1), .val (.int d0), .val (.int d1), .val (.ref b146), .val (.ref b149), .val (.int (((pp &&& (2147483647 : Int32)) % (65535 : Int32)) + (1 : Int32))), .val (.int q2), .val (.ref b151), .unset, .unset, .unset] [(.ref b172), (.ref b167), (.ref b167)]))
          refine Done.step (fun _ => XS.dup X172.here hx rfl (hb hby at_195) rfl rfl) ?_
          show Done _ p e below s _ _ (T172.setTop (mkF m 196 #[.val (.int aa), .val (.int bb), .val (.int pp), .val (.int qq), .val (.int fl), .val (.int (2 : Int32)), .val (.int (1 : Int32)), .val (.int c0), .val (.int c1), .val (.int d0), .val (.int d1), .val (.ref b146), .val (.ref b149), .val (.int (((pp &&& (2147483647 : Int32)) % (65535 : Int32)) + (1 : Int32))), .val (.int q2), .val (.ref b151), .unset, .unset, .unset] [(.ref b172), (.ref b172), (.ref b167), (.ref b167)]))
          refine Done.step (fun _ => XS.aload X172.here hx rfl (hb hby at_196) rfl rfl) ?_
          show Done _ p e below s _ _ (T172.setTop (mkF m 198 #[.val (.int aa), .val (.int bb), .val (.int pp), .val (.int qq), .val (.int fl), .val (.int (2 : Int32)), .val (.int (1 : Int32)), .val (.int c0), .val (.int c1), .val (.int d0), .val (.int d1), .val (.ref b146), .val (.ref b149), .val (.int (((pp &&& (2147483647 : Int32)) % (65535 : Int32)) + (1 : Int32))), .val (.int q2), .val (.ref b151), .unset, .unset, .unset] [(.ref b149), (.ref b172), (.ref b172), (.ref b167), (.ref b167)]))
          have f179 := (f174.ext E172)
          have Vs178 : Arv Z h172 b149 k149 .char (1 : Int32) (([nar .char d0] : List Int32).map Value.int) (.int (0 : Int32)) := f179
          rw [own_nar bd0.1 (own_up [d0] (by intro c hc; cases List.mem_singleton.mp hc; exact bd0) _ (List.mem_singleton.mpr rfl)).2] at Vs178
          have hp180 : ∀ c ∈ ([d0] : List Int32), ¬ c < 0 ∧ ¬ (255 : Int32) < c := (by intro c hc; simp only [List.mem_cons, List.not_mem_nil, or_false] at hc; rcases hc with rfl <;> assumption)
          have hbd180 := own_up _ hp180
          have f181 := (((f165.keep K166q (allS n0_b151 all0)).ext E167).ext E172)
          refine Done.callIB (nc := 1) (ns := 1) X172 hx hZ rfl hown (wAt hw 9 rfl) (wAt hw 10 rfl) (wAt hw 11 rfl) (by decide) (StrChars.Road.backV (W := 3) hZ (own_hws hw) (kI := 4) (wAt hw 7 rfl) (cs := ([d0] : List Int32)) (bs := ((([d0] : List Int32)).map (fun c => c.toInt8.toInt32))) (n := 1) n0_b172 Zs172 A172 F_value_b172 F_coder_b172 Vs178 (SC.ext f181.2) hz rfl rfl (by decide) (by decide) hp180 rfl (by decide) (by decide)) e172 (g := (mkF m 198 #[.val (.int aa), .val (.int bb), .val (.int pp), .val (.int qq), .val (.int fl), .val (.int (2 : Int32)), .val (.int (1 : Int32)), .val (.int c0), .val (.int c1), .val (.int d0), .val (.int d1), .val (.ref b146), .val (.ref b149), .val (.int (((pp &&& (2147483647 : Int32)) % (65535 : Int32)) + (1 : Int32))), .val (.int q2), .val (.ref b151), .unset, .unset, .unset] [(.ref b149), (.ref b172), (.ref b172), (.ref b167), (.ref b167)])) rfl (by rw [hml]; rfl) b172 [(.ref b149)] [(.ref b172), (.ref b167), (.ref b167)] (lenOf pd_4 rfl) rfl rfl (by show 2 * 0 + _ ≤ _; exact Nat.le_of_eq rfl) (hb hby at_198) (by decide) (by decide) ?_
          intro T180 v180 L180 X180 q180
          obtain ⟨rfl, Nq180, K180q, Eq180, Cq180, t180, kb180, n0_t180, szt180, net180, Vq180, Aq180⟩ := q180
          have f182 := (f173.ext E172)
          have ne_b146_t180 : b146 ≠ t180 := Nat.ne_of_lt (Nat.lt_of_lt_of_le f182.lt szt180)
          have ne_b149_t180 : b149 ≠ t180 := Nat.ne_of_lt (Nat.lt_of_lt_of_le f179.lt szt180)
          have f183 := (f175.ext E172)
          have ne_b151_t180 : b151 ≠ t180 := Nat.ne_of_lt (Nat.lt_of_lt_of_le f183.lt szt180)
          have f184 := (f176.ext E172)
          have ne_b153_t180 : b153 ≠ t180 := Nat.ne_of_lt (Nat.lt_of_lt_of_le f184.lt szt180)
          have f185 := (f177.ext E172)
          have ne_t158_t180 : t158 ≠ t180 := Nat.ne_of_lt (Nat.lt_of_lt_of_le f185.lt szt180)
          have f186 := (A167.ext E172)
          have ne_b167_t180 : b167 ≠ t180 := Nat.ne_of_lt (Nat.lt_of_lt_of_le f186.lt szt180)
          have ne_b172_t180 : b172 ≠ t180 := Ne.symm net180
          have N180 := Fr.app N166 Nq180
          have Zs180 := Nat.le_trans Zs172 K180q.1
          have hcd180 : StrChars.Road.CodA ([d0] : List Int32) 0 (1 : Int32) ((((([d0] : List Int32)).map (fun c => c.toInt8.toInt32))).map Value.int) := StrChars.Road.codOf (n := 1) rfl (fun c hc => (hp180 c hc).2)
          show Done _ p e below s _ _ (T180.setTop (mkF m 201 #[.val (.int aa), .val (.int bb), .val (.int pp), .val (.int qq), .val (.int fl), .val (.int (2 : Int32)), .val (.int (1 : Int32)), .val (.int c0), .val (.int c1), .val (.int d0), .val (.int d1), .val (.ref b146), .val (.ref b149), .val (.int (((pp &&& (2147483647 : Int32)) % (65535 : Int32)) + (1 : Int32))), .val (.int q2), .val (.ref b151), .unset, .unset, .unset] [(.ref b172), (.ref b167), (.ref b167)]))
          refine Done.step (fun _ => XS.iload X180.here hx rfl (hb hby at_201) rfl) ?_
          show Done _ p e below s _ _ (T180.setTop (mkF m 203 #[.val (.int aa), .val (.int bb), .val (.int pp), .val (.int qq), .val (.int fl), .val (.int (2 : Int32)), .val (.int (1 : Int32)), .val (.int c0), .val (.int c1), .val (.int d0), .val (.int d1), .val (.ref b146), .val (.ref b149), .val (.int (((pp &&& (2147483647 : Int32)) % (65535 : Int32)) + (1 : Int32))), .val (.int q2), .val (.ref b151), .unset, .unset, .unset] [(.int q2), (.ref b172), (.ref b167), (.ref b167)]))
          have f187 := (f186.keep K180q)
          have f188 := ((F_m_host_b167.ext E172).keep K180q (ninS ne_b167_b172 nin0))
          have f189 := ((F_m_port_b167.ext E172).keep K180q (ninS ne_b167_b172 nin0))
          have f190 := (f181.keep K180q (allS n0_b172 all0))
          refine Done.callI X180 hx hZ rfl hown (wAt hw 35 rfl) (wAt hw 36 rfl) (wAt hw 5 rfl) (wAt hw 37 rfl) (by decide) (rmA l Z a0 hw [] b167 b172 t180 kb180 ([d0] : List Int32) 0 (1 : Int32) ((((([d0] : List Int32)).map (fun c => c.toInt8.toInt32))).map Value.int) q2 z T180.heap n0 Zs180 f187 f188 f189 n0_b167 Eq180 Vq180 Cq180 Aq180 hcd180 hbd180 (Nat.le_of_ble_eq_true rfl) ne_b167_b172 ne_b167_t180 f190 SC hz (Nat.succ_ne_zero _) hq1 hq2) (fun _ _ => trivial) rfl (g := (mkF m 203 #[.val (.int aa), .val (.int bb), .val (.int pp), .val (.int qq), .val (.int fl), .val (.int (2 : Int32)), .val (.int (1 : Int32)), .val (.int c0), .val (.int c1), .val (.int d0), .val (.int d1), .val (.ref b146), .val (.ref b149), .val (.int (((pp &&& (2147483647 : Int32)) % (65535 : Int32)) + (1 : Int32))), .val (.int q2), .val (.ref b151), .unset, .unset, .unset] [(.int q2), (.ref b172), (.ref b167), (.ref b167)])) rfl (by rw [hml]; rfl) b167 [(.ref b172), (.int q2)] [(.ref b167)] 1 (lenOf pd_5 rfl) rfl rfl (by show 2 * 0 + _ ≤ _; exact Nat.le_of_eq rfl) (hb hby at_203) (by decide) (by decide) (by decide) (by decide) ?_
          intro T191 v191 L191 X191 q191
          obtain ⟨rfl, Nq191, K191q, f191_0, f191_1, f191_2⟩ := q191
          have N191 := Fr.app N180 Nq191
          have Zs191 := Nat.le_trans Zs180 K191q.1
          show Done _ p e below s _ _ (T191.setTop (mkF m 206 #[.val (.int aa), .val (.int bb), .val (.int pp), .val (.int qq), .val (.int fl), .val (.int (2 : Int32)), .val (.int (1 : Int32)), .val (.int c0), .val (.int c1), .val (.int d0), .val (.int d1), .val (.ref b146), .val (.ref b149), .val (.int (((pp &&& (2147483647 : Int32)) % (65535 : Int32)) + (1 : Int32))), .val (.int q2), .val (.ref b151), .unset, .unset, .unset] [(.ref b167)]))
          refine Done.step (fun _ => XS.astore X191.here hx rfl (hb hby at_206) rfl rfl (l' := #[.val (.int aa), .val (.int bb), .val (.int pp), .val (.int qq), .val (.int fl), .val (.int (2 : Int32)), .val (.int (1 : Int32)), .val (.int c0), .val (.int c1), .val (.int d0), .val (.int d1), .val (.ref b146), .val (.ref b149), .val (.int (((pp &&& (2147483647 : Int32)) % (65535 : Int32)) + (1 : Int32))), .val (.int q2), .val (.ref b151), .val (.ref b167), .unset, .unset]) rfl) ?_
          show Done _ p e below s _ _ (T191.setTop (mkF m 208 #[.val (.int aa), .val (.int bb), .val (.int pp), .val (.int qq), .val (.int fl), .val (.int (2 : Int32)), .val (.int (1 : Int32)), .val (.int c0), .val (.int c1), .val (.int d0), .val (.int d1), .val (.ref b146), .val (.ref b149), .val (.int (((pp &&& (2147483647 : Int32)) % (65535 : Int32)) + (1 : Int32))), .val (.int q2), .val (.ref b151), .val (.ref b167), .unset, .unset] []))
          have K249 : ∀ (ex : Int32) (hex : ex = bP (([d0] : List Int32) = ([c0, c1] : List Int32) ∧ q2 = (((pp &&& (2147483647 : Int32)) % (65535 : Int32)) + (1 : Int32)))), Done FrameEnd p e below s room_1 (LawQ n0) (T191.setTop (mkF m 249 #[.val (.int aa), .val (.int bb), .val (.int pp), .val (.int qq), .val (.int fl), .val (.int (2 : Int32)), .val (.int (1 : Int32)), .val (.int c0), .val (.int c1), .val (.int d0), .val (.int d1), .val (.ref b146), .val (.ref b149), .val (.int (((pp &&& (2147483647 : Int32)) % (65535 : Int32)) + (1 : Int32))), .val (.int q2), .val (.ref b151), .val (.ref b167), .val (.int ex), .unset] [])) := by
            intro ex hex
            show Done _ p e below s _ _ (T191.setTop (mkF m 249 #[.val (.int aa), .val (.int bb), .val (.int pp), .val (.int qq), .val (.int fl), .val (.int (2 : Int32)), .val (.int (1 : Int32)), .val (.int c0), .val (.int c1), .val (.int d0), .val (.int d1), .val (.ref b146), .val (.ref b149), .val (.int (((pp &&& (2147483647 : Int32)) % (65535 : Int32)) + (1 : Int32))), .val (.int q2), .val (.ref b151), .val (.ref b167), .val (.int ex), .unset] []))
            refine Done.step (fun _ => XS.iload X191.here hx rfl (hb hby at_249) rfl) ?_
            show Done _ p e below s _ _ (T191.setTop (mkF m 251 #[.val (.int aa), .val (.int bb), .val (.int pp), .val (.int qq), .val (.int fl), .val (.int (2 : Int32)), .val (.int (1 : Int32)), .val (.int c0), .val (.int c1), .val (.int d0), .val (.int d1), .val (.ref b146), .val (.ref b149), .val (.int (((pp &&& (2147483647 : Int32)) % (65535 : Int32)) + (1 : Int32))), .val (.int q2), .val (.ref b151), .val (.ref b167), .val (.int ex), .unset] [(.int (((pp &&& (2147483647 : Int32)) % (65535 : Int32)) + (1 : Int32)))]))
            have f193 := (f190.keep K191q (allS n0_b167 all0))
            refine Done.callS X191 hx hZ hown (wAt hw 49 rfl) (wAt hw 50 rfl) (wAt hw 51 rfl) (wAt hw 52 rfl) (by decide) (rmV l Z a0 hw [] (((pp &&& (2147483647 : Int32)) % (65535 : Int32)) + (1 : Int32)) cA cl T191.heap n0 Zs191 f193 SH SK CA hsz hel hport1.1) (fun _ _ => trivial) rfl (g := (mkF m 251 #[.val (.int aa), .val (.int bb), .val (.int pp), .val (.int qq), .val (.int fl), .val (.int (2 : Int32)), .val (.int (1 : Int32)), .val (.int c0), .val (.int c1), .val (.int d0), .val (.int d1), .val (.ref b146), .val (.ref b149), .val (.int (((pp &&& (2147483647 : Int32)) % (65535 : Int32)) + (1 : Int32))), .val (.int q2), .val (.ref b151), .val (.ref b167), .val (.int ex), .unset] [(.int (((pp &&& (2147483647 : Int32)) % (65535 : Int32)) + (1 : Int32)))])) rfl (by rw [hml]; rfl) [(.int (((pp &&& (2147483647 : Int32)) % (65535 : Int32)) + (1 : Int32)))] [] 0 (lenOf pd_6 rfl) rfl rfl (by show 2 * 0 + _ ≤ _; exact Nat.le_of_eq rfl) (hb hby at_251) (by decide) (by decide) (by decide) (by decide) ?_
            intro T192 v192 L192 X192 q192
            obtain ⟨rI, rfl, Nq192, K192q, Er192⟩ := q192
            have N192 := Fr.app N191 Nq192
            have Zs192 := Nat.le_trans Zs191 K192q.1
            show Done _ p e below s _ _ (T192.setTop (mkF m 254 #[.val (.int aa), .val (.int bb), .val (.int pp), .val (.int qq), .val (.int fl), .val (.int (2 : Int32)), .val (.int (1 : Int32)), .val (.int c0), .val (.int c1), .val (.int d0), .val (.int d1), .val (.ref b146), .val (.ref b149), .val (.int (((pp &&& (2147483647 : Int32)) % (65535 : Int32)) + (1 : Int32))), .val (.int q2), .val (.ref b151), .val (.ref b167), .val (.int ex), .unset] [(.ref rI)]))
            refine Done.step (fun _ => XS.astore X192.here hx rfl (hb hby at_254) rfl rfl (l' := #[.val (.int aa), .val (.int bb), .val (.int pp), .val (.int qq), .val (.int fl), .val (.int (2 : Int32)), .val (.int (1 : Int32)), .val (.int c0), .val (.int c1), .val (.int d0), .val (.int d1), .val (.ref b146), .val (.ref b149), .val (.int (((pp &&& (2147483647 : Int32)) % (65535 : Int32)) + (1 : Int32))), .val (.int q2), .val (.ref b151), .val (.ref b167), .val (.int ex), .val (.ref rI)]) rfl) ?_
            show Done _ p e below s _ _ (T192.setTop (mkF m 256 #[.val (.int aa), .val (.int bb), .val (.int pp), .val (.int qq), .val (.int fl), .val (.int (2 : Int32)), .val (.int (1 : Int32)), .val (.int c0), .val (.int c1), .val (.int d0), .val (.int d1), .val (.ref b146), .val (.ref b149), .val (.int (((pp &&& (2147483647 : Int32)) % (65535 : Int32)) + (1 : Int32))), .val (.int q2), .val (.ref b151), .val (.ref b167), .val (.int ex), .val (.ref rI)] []))
            refine Done.step (fun _ => XS.aload X192.here hx rfl (hb hby at_256) rfl rfl) ?_
            show Done _ p e below s _ _ (T192.setTop (mkF m 258 #[.val (.int aa), .val (.int bb), .val (.int pp), .val (.int qq), .val (.int fl), .val (.int (2 : Int32)), .val (.int (1 : Int32)), .val (.int c0), .val (.int c1), .val (.int d0), .val (.int d1), .val (.ref b146), .val (.ref b149), .val (.int (((pp &&& (2147483647 : Int32)) % (65535 : Int32)) + (1 : Int32))), .val (.int q2), .val (.ref b151), .val (.ref b167), .val (.int ex), .val (.ref rI)] [(.ref b151)]))
            refine Done.step (fun _ => XS.aload X192.here hx rfl (hb hby at_258) rfl rfl) ?_
            show Done _ p e below s _ _ (T192.setTop (mkF m 260 #[.val (.int aa), .val (.int bb), .val (.int pp), .val (.int qq), .val (.int fl), .val (.int (2 : Int32)), .val (.int (1 : Int32)), .val (.int c0), .val (.int c1), .val (.int d0), .val (.int d1), .val (.ref b146), .val (.ref b149), .val (.int (((pp &&& (2147483647 : Int32)) % (65535 : Int32)) + (1 : Int32))), .val (.int q2), .val (.ref b151), .val (.ref b167), .val (.int ex), .val (.ref rI)] [(.ref b167), (.ref b151)]))
            have f194 := (((f184.keep K180q).keep K191q).keep K192q)
            have f195 := ((((((Vq158.keep K166q (ninS (Ne.symm ne_b151_b153) nin0)).ext E167).ext E172).keep K180q (ninS ne_b153_b172 nin0)).keep K191q (ninS ne_b153_b167 nin0)).keep K192q nin0)
            have f196 := ((((((Cq158.keep K166q (ninS (Ne.symm ne_b151_b153) nin0)).ext E167).ext E172).keep K180q (ninS ne_b153_b172 nin0)).keep K191q (ninS ne_b153_b167 nin0)).keep K192q nin0)
            have f197 := (((f185.keep K180q (ninS ne_t158_b172 nin0)).keep K191q (ninS ne_t158_b167 nin0)).keep K192q nin0)
            have f198 := ((Eq180.keep K191q).keep K192q)
            have f199 := ((Vq180.keep K191q (ninS (Ne.symm ne_b167_b172) nin0)).keep K192q nin0)
            have f200 := ((Cq180.keep K191q (ninS (Ne.symm ne_b167_b172) nin0)).keep K192q nin0)
            have f201 := ((Aq180.keep K191q (ninS (Ne.symm ne_b167_t180) nin0)).keep K192q nin0)
            have f202 := (f191_0.keep K192q)
            have f203 := (((((f166_1.ext E167).ext E172).keep K180q (ninS ne_b151_b172 nin0)).keep K191q (ninS ne_b151_b167 nin0)).keep K192q nin0)
            have f204 := (((((f166_2.ext E167).ext E172).keep K180q (ninS ne_b151_b172 nin0)).keep K191q (ninS ne_b151_b167 nin0)).keep K192q nin0)
            have f205 := (f191_1.keep K192q nin0)
            have f206 := (f191_2.keep K192q nin0)
            have f207 := (f193.keep K192q all0)
            have f209 := (((f183.keep K180q).keep K191q).keep K192q)
            refine Done.callVP X192 hx hZ (C := "com/example/minho/minho/core/Address") hown (wAt hw 56 rfl) (wAt hw 57 rfl) (notFace_of_selects (args := #[]) (mvT hZ (wAt hw 59 rfl))) (wAt hw 59 rfl) (wAt hw 58 rfl) (wAt hw 5 rfl) (wAt hw 60 rfl) (by decide) (rmE l Z a0 hw [] b151 b167 b153 t158 kb158 ([c0, c1] : List Int32) 0 (2 : Int32) ((((([c0, c1] : List Int32)).map (fun c => c.toInt8.toInt32))).map Value.int) b172 t180 kb180 ([d0] : List Int32) 0 (1 : Int32) ((((([d0] : List Int32)).map (fun c => c.toInt8.toInt32))).map Value.int) (((pp &&& (2147483647 : Int32)) % (65535 : Int32)) + (1 : Int32)) q2 ex z T192.heap n0 Zs192 f202 f203 f204 f205 f206 f194 f195 f196 f197 hcd158 hbd158 (Nat.le_of_ble_eq_true rfl) f198 f199 f200 f201 hcd180 hbd180 (Nat.le_of_ble_eq_true rfl) f207 SC hz hex) rfl f209 (g := (mkF m 260 #[.val (.int aa), .val (.int bb), .val (.int pp), .val (.int qq), .val (.int fl), .val (.int (2 : Int32)), .val (.int (1 : Int32)), .val (.int c0), .val (.int c1), .val (.int d0), .val (.int d1), .val (.ref b146), .val (.ref b149), .val (.int (((pp &&& (2147483647 : Int32)) % (65535 : Int32)) + (1 : Int32))), .val (.int q2), .val (.ref b151), .val (.ref b167), .val (.int ex), .val (.ref rI)] [(.ref b167), (.ref b151)])) rfl (by rw [hml]; rfl) [(.ref b167)] [] 0 (lenOf pd_1 rfl) rfl rfl (by show 2 * 0 + _ ≤ _; exact Nat.le_of_eq rfl) (hb hby at_260) (by decide) (by decide) (by decide) (by decide) rfl rfl ?_
            intro T208 X208 e208
            show Done _ p e below s _ _ (T208.setTop (mkF m 263 #[.val (.int aa), .val (.int bb), .val (.int pp), .val (.int qq), .val (.int fl), .val (.int (2 : Int32)), .val (.int (1 : Int32)), .val (.int c0), .val (.int c1), .val (.int d0), .val (.int d1), .val (.ref b146), .val (.ref b149), .val (.int (((pp &&& (2147483647 : Int32)) % (65535 : Int32)) + (1 : Int32))), .val (.int q2), .val (.ref b151), .val (.ref b167), .val (.int ex), .val (.ref rI)] [(.int ex)]))
            refine Done.step (fun _ => XS.iload X208.here hx rfl (hb hby at_263) rfl) ?_
            show Done _ p e below s _ _ (T208.setTop (mkF m 265 #[.val (.int aa), .val (.int bb), .val (.int pp), .val (.int qq), .val (.int fl), .val (.int (2 : Int32)), .val (.int (1 : Int32)), .val (.int c0), .val (.int c1), .val (.int d0), .val (.int d1), .val (.ref b146), .val (.ref b149), .val (.int (((pp &&& (2147483647 : Int32)) % (65535 : Int32)) + (1 : Int32))), .val (.int q2), .val (.ref b151), .val (.ref b167), .val (.int ex), .val (.ref rI)] [(.int ex), (.int ex)]))
            refine Done.step (fun _ => XS.icmpNo X208.here hx rfl (hb hby at_265) rfl (XT.ii_ne_f rfl)) ?_
            show Done _ p e below s _ _ (T208.setTop (mkF m 268 #[.val (.int aa), .val (.int bb), .val (.int pp), .val (.int qq), .val (.int fl), .val (.int (2 : Int32)), .val (.int (1 : Int32)), .val (.int c0), .val (.int c1), .val (.int d0), .val (.int d1), .val (.ref b146), .val (.ref b149), .val (.int (((pp &&& (2147483647 : Int32)) % (65535 : Int32)) + (1 : Int32))), .val (.int q2), .val (.ref b151), .val (.ref b167), .val (.int ex), .val (.ref rI)] []))
            refine Done.step (fun _ => XS.aload X208.here hx rfl (hb hby at_268) rfl rfl) ?_
            show Done _ p e below s _ _ (T208.setTop (mkF m 270 #[.val (.int aa), .val (.int bb), .val (.int pp), .val (.int qq), .val (.int fl), .val (.int (2 : Int32)), .val (.int (1 : Int32)), .val (.int c0), .val (.int c1), .val (.int d0), .val (.int d1), .val (.ref b146), .val (.ref b149), .val (.int (((pp &&& (2147483647 : Int32)) % (65535 : Int32)) + (1 : Int32))), .val (.int q2), .val (.ref b151), .val (.ref b167), .val (.int ex), .val (.ref rI)] [(.ref b167)]))
            refine Done.step (fun _ => XS.aload X208.here hx rfl (hb hby at_270) rfl rfl) ?_
            show Done _ p e below s _ _ (T208.setTop (mkF m 272 #[.val (.int aa), .val (.int bb), .val (.int pp), .val (.int qq), .val (.int fl), .val (.int (2 : Int32)), .val (.int (1 : Int32)), .val (.int c0), .val (.int c1), .val (.int d0), .val (.int d1), .val (.ref b146), .val (.ref b149), .val (.int (((pp &&& (2147483647 : Int32)) % (65535 : Int32)) + (1 : Int32))), .val (.int q2), .val (.ref b151), .val (.ref b167), .val (.int ex), .val (.ref rI)] [(.ref b151), (.ref b167)]))
            refine Done.callVP X208 hx hZ (C := "com/example/minho/minho/core/Address") hown (wAt hw 56 rfl) (wAt hw 57 rfl) (notFace_of_selects (args := #[]) (mvT hZ (wAt hw 59 rfl))) (wAt hw 59 rfl) (wAt hw 58 rfl) (wAt hw 5 rfl) (wAt hw 60 rfl) (by decide) (rmE l Z a0 hw [] b167 b151 b172 t180 kb180 ([d0] : List Int32) 0 (1 : Int32) ((((([d0] : List Int32)).map (fun c => c.toInt8.toInt32))).map Value.int) b153 t158 kb158 ([c0, c1] : List Int32) 0 (2 : Int32) ((((([c0, c1] : List Int32)).map (fun c => c.toInt8.toInt32))).map Value.int) q2 (((pp &&& (2147483647 : Int32)) % (65535 : Int32)) + (1 : Int32)) ex z T192.heap n0 Zs192 f209 f205 f206 f203 f204 f198 f199 f200 f201 hcd180 hbd180 (Nat.le_of_ble_eq_true rfl) f194 f195 f196 f197 hcd158 hbd158 (Nat.le_of_ble_eq_true rfl) f207 SC hz (hex.trans (own_bpc _ _ _ _))) e208 f202 (g := (mkF m 272 #[.val (.int aa), .val (.int bb), .val (.int pp), .val (.int qq), .val (.int fl), .val (.int (2 : Int32)), .val (.int (1 : Int32)), .val (.int c0), .val (.int c1), .val (.int d0), .val (.int d1), .val (.ref b146), .val (.ref b149), .val (.int (((pp &&& (2147483647 : Int32)) % (65535 : Int32)) + (1 : Int32))), .val (.int q2), .val (.ref b151), .val (.ref b167), .val (.int ex), .val (.ref rI)] [(.ref b151), (.ref b167)])) rfl (by rw [hml]; rfl) [(.ref b151)] [] 0 (lenOf pd_1 rfl) rfl rfl (by show 2 * 0 + _ ≤ _; exact Nat.le_of_eq rfl) (hb hby at_272) (by decide) (by decide) (by decide) (by decide) rfl rfl ?_
            intro T210 X210 e210
            show Done _ p e below s _ _ (T210.setTop (mkF m 275 #[.val (.int aa), .val (.int bb), .val (.int pp), .val (.int qq), .val (.int fl), .val (.int (2 : Int32)), .val (.int (1 : Int32)), .val (.int c0), .val (.int c1), .val (.int d0), .val (.int d1), .val (.ref b146), .val (.ref b149), .val (.int (((pp &&& (2147483647 : Int32)) % (65535 : Int32)) + (1 : Int32))), .val (.int q2), .val (.ref b151), .val (.ref b167), .val (.int ex), .val (.ref rI)] [(.int ex)]))
            refine Done.step (fun _ => XS.iload X210.here hx rfl (hb hby at_275) rfl) ?_
            show Done _ p e below s _ _ (T210.setTop (mkF m 277 #[.val (.int aa), .val (.int bb), .val (.int pp), .val (.int qq), .val (.int fl), .val (.int (2 : Int32)), .val (.int (1 : Int32)), .val (.int c0), .val (.int c1), .val (.int d0), .val (.int d1), .val (.ref b146), .val (.ref b149), .val (.int (((pp &&& (2147483647 : Int32)) % (65535 : Int32)) + (1 : Int32))), .val (.int q2), .val (.ref b151), .val (.ref b167), .val (.int ex), .val (.ref rI)] [(.int ex), (.int ex)]))
            refine Done.step (fun _ => XS.icmpNo X210.here hx rfl (hb hby at_277) rfl (XT.ii_ne_f rfl)) ?_
            show Done _ p e below s _ _ (T210.setTop (mkF m 280 #[.val (.int aa), .val (.int bb), .val (.int pp), .val (.int qq), .val (.int fl), .val (.int (2 : Int32)), .val (.int (1 : Int32)), .val (.int c0), .val (.int c1), .val (.int d0), .val (.int d1), .val (.ref b146), .val (.ref b149), .val (.int (((pp &&& (2147483647 : Int32)) % (65535 : Int32)) + (1 : Int32))), .val (.int q2), .val (.ref b151), .val (.ref b167), .val (.int ex), .val (.ref rI)] []))
            refine Done.step (fun _ => XS.aload X210.here hx rfl (hb hby at_280) rfl rfl) ?_
            show Done _ p e below s _ _ (T210.setTop (mkF m 282 #[.val (.int aa), .val (.int bb), .val (.int pp), .val (.int qq), .val (.int fl), .val (.int (2 : Int32)), .val (.int (1 : Int32)), .val (.int c0), .val (.int c1), .val (.int d0), .val (.int d1), .val (.ref b146), .val (.ref b149), .val (.int (((pp &&& (2147483647 : Int32)) % (65535 : Int32)) + (1 : Int32))), .val (.int q2), .val (.ref b151), .val (.ref b167), .val (.int ex), .val (.ref rI)] [(.ref b151)]))
            refine Done.step (fun _ => XS.aload X210.here hx rfl (hb hby at_282) rfl rfl) ?_
            show Done _ p e below s _ _ (T210.setTop (mkF m 284 #[.val (.int aa), .val (.int bb), .val (.int pp), .val (.int qq), .val (.int fl), .val (.int (2 : Int32)), .val (.int (1 : Int32)), .val (.int c0), .val (.int c1), .val (.int d0), .val (.int d1), .val (.ref b146), .val (.ref b149), .val (.int (((pp &&& (2147483647 : Int32)) % (65535 : Int32)) + (1 : Int32))), .val (.int q2), .val (.ref b151), .val (.ref b167), .val (.int ex), .val (.ref rI)] [(.ref b151), (.ref b151)]))
            refine Done.callVP X210 hx hZ (C := "com/example/minho/minho/core/Address") hown (wAt hw 56 rfl) (wAt hw 57 rfl) (notFace_of_selects (args := #[]) (mvT hZ (wAt hw 59 rfl))) (wAt hw 59 rfl) (wAt hw 58 rfl) (wAt hw 5 rfl) (wAt hw 60 rfl) (by decide) (rmE l Z a0 hw [] b151 b151 b153 t158 kb158 ([c0, c1] : List Int32) 0 (2 : Int32) ((((([c0, c1] : List Int32)).map (fun c => c.toInt8.toInt32))).map Value.int) b153 t158 kb158 ([c0, c1] : List Int32) 0 (2 : Int32) ((((([c0, c1] : List Int32)).map (fun c => c.toInt8.toInt32))).map Value.int) (((pp &&& (2147483647 : Int32)) % (65535 : Int32)) + (1 : Int32)) (((pp &&& (2147483647 : Int32)) % (65535 : Int32)) + (1 : Int32)) (1 : Int32) z T192.heap n0 Zs192 f209 f203 f204 f203 f204 f194 f195 f196 f197 hcd158 hbd158 (Nat.le_of_ble_eq_true rfl) f194 f195 f196 f197 hcd158 hbd158 (Nat.le_of_ble_eq_true rfl) f207 SC hz (bP_t ⟨rfl, rfl⟩).symm) e210 f209 (g := (mkF m 284 #[.val (.int aa), .val (.int bb), .val (.int pp), .val (.int qq), .val (.int fl), .val (.int (2 : Int32)), .val (.int (1 : Int32)), .val (.int c0), .val (.int c1), .val (.int d0), .val (.int d1), .val (.ref b146), .val (.ref b149), .val (.int (((pp &&& (2147483647 : Int32)) % (65535 : Int32)) + (1 : Int32))), .val (.int q2), .val (.ref b151), .val (.ref b167), .val (.int ex), .val (.ref rI)] [(.ref b151), (.ref b151)])) rfl (by rw [hml]; rfl) [(.ref b151)] [] 0 (lenOf pd_1 rfl) rfl rfl (by show 2 * 0 + _ ≤ _; exact Nat.le_of_eq rfl) (hb hby at_284) (by decide) (by decide) (by decide) (by decide) rfl rfl ?_
            intro T211 X211 e211
            show Done _ p e below s _ _ (T211.setTop (mkF m 287 #[.val (.int aa), .val (.int bb), .val (.int pp), .val (.int qq), .val (.int fl), .val (.int (2 : Int32)), .val (.int (1 : Int32)), .val (.int c0), .val (.int c1), .val (.int d0), .val (.int d1), .val (.ref b146), .val (.ref b149), .val (.int (((pp &&& (2147483647 : Int32)) % (65535 : Int32)) + (1 : Int32))), .val (.int q2), .val (.ref b151), .val (.ref b167), .val (.int ex), .val (.ref rI)] [(.int (1 : Int32))]))
            refine Done.step (fun _ => XS.ifNo X211.here hx rfl (hb hby at_287) rfl (XT.i0_eq_f (by decide))) ?_
            show Done _ p e below s _ _ (T211.setTop (mkF m 290 #[.val (.int aa), .val (.int bb), .val (.int pp), .val (.int qq), .val (.int fl), .val (.int (2 : Int32)), .val (.int (1 : Int32)), .val (.int c0), .val (.int c1), .val (.int d0), .val (.int d1), .val (.ref b146), .val (.ref b149), .val (.int (((pp &&& (2147483647 : Int32)) % (65535 : Int32)) + (1 : Int32))), .val (.int q2), .val (.ref b151), .val (.ref b167), .val (.int ex), .val (.ref rI)] []))
            refine Done.step (fun _ => XS.aload X211.here hx rfl (hb hby at_290) rfl rfl) ?_
            show Done _ p e below s _ _ (T211.setTop (mkF m 292 #[.val (.int aa), .val (.int bb), .val (.int pp), .val (.int qq), .val (.int fl), .val (.int (2 : Int32)), .val (.int (1 : Int32)), .val (.int c0), .val (.int c1), .val (.int d0), .val (.int d1), .val (.ref b146), .val (.ref b149), .val (.int (((pp &&& (2147483647 : Int32)) % (65535 : Int32)) + (1 : Int32))), .val (.int q2), .val (.ref b151), .val (.ref b167), .val (.int ex), .val (.ref rI)] [(.ref b151)]))
            refine Done.step (fun _ => XS.aconstNull X211.here hx rfl (hb hby at_292)) ?_
            show Done _ p e below s _ _ (T211.setTop (mkF m 293 #[.val (.int aa), .val (.int bb), .val (.int pp), .val (.int qq), .val (.int fl), .val (.int (2 : Int32)), .val (.int (1 : Int32)), .val (.int c0), .val (.int c1), .val (.int d0), .val (.int d1), .val (.ref b146), .val (.ref b149), .val (.int (((pp &&& (2147483647 : Int32)) % (65535 : Int32)) + (1 : Int32))), .val (.int q2), .val (.ref b151), .val (.ref b167), .val (.int ex), .val (.ref rI)] [.null, (.ref b151)]))
            refine Done.callVP X211 hx hZ (C := "com/example/minho/minho/core/Address") hown (wAt hw 56 rfl) (wAt hw 57 rfl) (notFace_of_selects (args := #[]) (mvT hZ (wAt hw 59 rfl))) (wAt hw 59 rfl) (wAt hw 58 rfl) (wAt hw 5 rfl) (wAt hw 60 rfl) (by decide) (rmN l Z a0 hw [] b151 T192.heap n0 Zs192) e211 f209 (g := (mkF m 293 #[.val (.int aa), .val (.int bb), .val (.int pp), .val (.int qq), .val (.int fl), .val (.int (2 : Int32)), .val (.int (1 : Int32)), .val (.int c0), .val (.int c1), .val (.int d0), .val (.int d1), .val (.ref b146), .val (.ref b149), .val (.int (((pp &&& (2147483647 : Int32)) % (65535 : Int32)) + (1 : Int32))), .val (.int q2), .val (.ref b151), .val (.ref b167), .val (.int ex), .val (.ref rI)] [.null, (.ref b151)])) rfl (by rw [hml]; rfl) [.null] [] 0 (lenOf pd_1 rfl) rfl rfl (by show 2 * 0 + _ ≤ _; exact Nat.le_of_eq rfl) (hb hby at_293) (by decide) (by decide) (by decide) (by decide) rfl rfl ?_
            intro T212 X212 e212
            show Done _ p e below s _ _ (T212.setTop (mkF m 296 #[.val (.int aa), .val (.int bb), .val (.int pp), .val (.int qq), .val (.int fl), .val (.int (2 : Int32)), .val (.int (1 : Int32)), .val (.int c0), .val (.int c1), .val (.int d0), .val (.int d1), .val (.ref b146), .val (.ref b149), .val (.int (((pp &&& (2147483647 : Int32)) % (65535 : Int32)) + (1 : Int32))), .val (.int q2), .val (.ref b151), .val (.ref b167), .val (.int ex), .val (.ref rI)] [(.int (0 : Int32))]))
            refine Done.step (fun _ => XS.ifNo X212.here hx rfl (hb hby at_296) rfl (XT.i0_ne_f rfl)) ?_
            show Done _ p e below s _ _ (T212.setTop (mkF m 299 #[.val (.int aa), .val (.int bb), .val (.int pp), .val (.int qq), .val (.int fl), .val (.int (2 : Int32)), .val (.int (1 : Int32)), .val (.int c0), .val (.int c1), .val (.int d0), .val (.int d1), .val (.ref b146), .val (.ref b149), .val (.int (((pp &&& (2147483647 : Int32)) % (65535 : Int32)) + (1 : Int32))), .val (.int q2), .val (.ref b151), .val (.ref b167), .val (.int ex), .val (.ref rI)] []))
            refine Done.step (fun _ => XS.aload X212.here hx rfl (hb hby at_299) rfl rfl) ?_
            show Done _ p e below s _ _ (T212.setTop (mkF m 301 #[.val (.int aa), .val (.int bb), .val (.int pp), .val (.int qq), .val (.int fl), .val (.int (2 : Int32)), .val (.int (1 : Int32)), .val (.int c0), .val (.int c1), .val (.int d0), .val (.int d1), .val (.ref b146), .val (.ref b149), .val (.int (((pp &&& (2147483647 : Int32)) % (65535 : Int32)) + (1 : Int32))), .val (.int q2), .val (.ref b151), .val (.ref b167), .val (.int ex), .val (.ref rI)] [(.ref b151)]))
            refine Done.step (fun _ => XS.aload X212.here hx rfl (hb hby at_301) rfl rfl) ?_
            show Done _ p e below s _ _ (T212.setTop (mkF m 303 #[.val (.int aa), .val (.int bb), .val (.int pp), .val (.int qq), .val (.int fl), .val (.int (2 : Int32)), .val (.int (1 : Int32)), .val (.int c0), .val (.int c1), .val (.int d0), .val (.int d1), .val (.ref b146), .val (.ref b149), .val (.int (((pp &&& (2147483647 : Int32)) % (65535 : Int32)) + (1 : Int32))), .val (.int q2), .val (.ref b151), .val (.ref b167), .val (.int ex), .val (.ref rI)] [(.ref rI), (.ref b151)]))
            refine Done.callVP X212 hx hZ (C := "com/example/minho/minho/core/Address") hown (wAt hw 56 rfl) (wAt hw 57 rfl) (notFace_of_selects (args := #[]) (mvT hZ (wAt hw 59 rfl))) (wAt hw 59 rfl) (wAt hw 58 rfl) (wAt hw 5 rfl) (wAt hw 60 rfl) (by decide) (rmI l Z a0 hw [] b151 rI T192.heap n0 Zs192 Er192) e212 f209 (g := (mkF m 303 #[.val (.int aa), .val (.int bb), .val (.int pp), .val (.int qq), .val (.int fl), .val (.int (2 : Int32)), .val (.int (1 : Int32)), .val (.int c0), .val (.int c1), .val (.int d0), .val (.int d1), .val (.ref b146), .val (.ref b149), .val (.int (((pp &&& (2147483647 : Int32)) % (65535 : Int32)) + (1 : Int32))), .val (.int q2), .val (.ref b151), .val (.ref b167), .val (.int ex), .val (.ref rI)] [(.ref rI), (.ref b151)])) rfl (by rw [hml]; rfl) [(.ref rI)] [] 0 (lenOf pd_1 rfl) rfl rfl (by show 2 * 0 + _ ≤ _; exact Nat.le_of_eq rfl) (hb hby at_303) (by decide) (by decide) (by decide) (by decide) rfl rfl ?_
            intro T213 X213 e213
            show Done _ p e below s _ _ (T213.setTop (mkF m 306 #[.val (.int aa), .val (.int bb), .val (.int pp), .val (.int qq), .val (.int fl), .val (.int (2 : Int32)), .val (.int (1 : Int32)), .val (.int c0), .val (.int c1), .val (.int d0), .val (.int d1), .val (.ref b146), .val (.ref b149), .val (.int (((pp &&& (2147483647 : Int32)) % (65535 : Int32)) + (1 : Int32))), .val (.int q2), .val (.ref b151), .val (.ref b167), .val (.int ex), .val (.ref rI)] [(.int (0 : Int32))]))
            refine Done.step (fun _ => XS.ifNo X213.here hx rfl (hb hby at_306) rfl (XT.i0_ne_f rfl)) ?_
            show Done _ p e below s _ _ (T213.setTop (mkF m 309 #[.val (.int aa), .val (.int bb), .val (.int pp), .val (.int qq), .val (.int fl), .val (.int (2 : Int32)), .val (.int (1 : Int32)), .val (.int c0), .val (.int c1), .val (.int d0), .val (.int d1), .val (.ref b146), .val (.ref b149), .val (.int (((pp &&& (2147483647 : Int32)) % (65535 : Int32)) + (1 : Int32))), .val (.int q2), .val (.ref b151), .val (.ref b167), .val (.int ex), .val (.ref rI)] []))
            refine Done.step (fun _ => XT.iconstV X213.here hx rfl (1 : Int32) (hb hby at_309) (by decide)) ?_
            show Done _ p e below s _ _ (T213.setTop (mkF m 310 #[.val (.int aa), .val (.int bb), .val (.int pp), .val (.int qq), .val (.int fl), .val (.int (2 : Int32)), .val (.int (1 : Int32)), .val (.int c0), .val (.int c1), .val (.int d0), .val (.int d1), .val (.ref b146), .val (.ref b149), .val (.int (((pp &&& (2147483647 : Int32)) % (65535 : Int32)) + (1 : Int32))), .val (.int q2), .val (.ref b151), .val (.ref b167), .val (.int ex), .val (.ref rI)] [(.int (1 : Int32))]))
            refine Done.step (fun _ => XS.goto X213.here hx rfl (pc0 := 310) (pc' := 314) rfl (hb hby at_310) (by decide) (by decide)) ?_
            show Done _ p e below s _ _ (T213.setTop (mkF m 314 #[.val (.int aa), .val (.int bb), .val (.int pp), .val (.int qq), .val (.int fl), .val (.int (2 : Int32)), .val (.int (1 : Int32)), .val (.int c0), .val (.int c1), .val (.int d0), .val (.int d1), .val (.ref b146), .val (.ref b149), .val (.int (((pp &&& (2147483647 : Int32)) % (65535 : Int32)) + (1 : Int32))), .val (.int q2), .val (.ref b151), .val (.ref b167), .val (.int ex), .val (.ref rI)] [(.int (1 : Int32))]))
            exact Done.retN (leavesF X213 hlk (by decide) (by decide)) X213 hx (t := .boolean) hret (by simp) (hb hby at_314) ⟨rfl, N192⟩
          refine Done.step (fun _ => XS.iload X191.here hx rfl (hb hby at_208) rfl) ?_
          show Done _ p e below s _ _ (T191.setTop (mkF m 210 #[.val (.int aa), .val (.int bb), .val (.int pp), .val (.int qq), .val (.int fl), .val (.int (2 : Int32)), .val (.int (1 : Int32)), .val (.int c0), .val (.int c1), .val (.int d0), .val (.int d1), .val (.ref b146), .val (.ref b149), .val (.int (((pp &&& (2147483647 : Int32)) % (65535 : Int32)) + (1 : Int32))), .val (.int q2), .val (.ref b151), .val (.ref b167), .unset, .unset] [(.int (2 : Int32))]))
          refine Done.step (fun _ => XS.iload X191.here hx rfl (hb hby at_210) rfl) ?_
          show Done _ p e below s _ _ (T191.setTop (mkF m 212 #[.val (.int aa), .val (.int bb), .val (.int pp), .val (.int qq), .val (.int fl), .val (.int (2 : Int32)), .val (.int (1 : Int32)), .val (.int c0), .val (.int c1), .val (.int d0), .val (.int d1), .val (.ref b146), .val (.ref b149), .val (.int (((pp &&& (2147483647 : Int32)) % (65535 : Int32)) + (1 : Int32))), .val (.int q2), .val (.ref b151), .val (.ref b167), .unset, .unset] [(.int (1 : Int32)), (.int (2 : Int32))]))
          refine Done.step (fun _ => XS.icmpYes X191.here hx rfl (pc0 := 212) (pc' := 246) rfl (hb hby at_212) rfl (XT.ii_ne_t (by decide)) (by decide) (by decide)) ?_
          show Done _ p e below s _ _ (T191.setTop (mkF m 246 #[.val (.int aa), .val (.int bb), .val (.int pp), .val (.int qq), .val (.int fl), .val (.int (2 : Int32)), .val (.int (1 : Int32)), .val (.int c0), .val (.int c1), .val (.int d0), .val (.int d1), .val (.ref b146), .val (.ref b149), .val (.int (((pp &&& (2147483647 : Int32)) % (65535 : Int32)) + (1 : Int32))), .val (.int q2), .val (.ref b151), .val (.ref b167), .unset, .unset] []))
          refine Done.step (fun _ => XT.iconstV X191.here hx rfl (0 : Int32) (hb hby at_246) (by decide)) ?_
          show Done _ p e below s _ _ (T191.setTop (mkF m 247 #[.val (.int aa), .val (.int bb), .val (.int pp), .val (.int qq), .val (.int fl), .val (.int (2 : Int32)), .val (.int (1 : Int32)), .val (.int c0), .val (.int c1), .val (.int d0), .val (.int d1), .val (.ref b146), .val (.ref b149), .val (.int (((pp &&& (2147483647 : Int32)) % (65535 : Int32)) + (1 : Int32))), .val (.int q2), .val (.ref b151), .val (.ref b167), .unset, .unset] [(.int (0 : Int32))]))
          refine Done.step (fun _ => XS.istore X191.here hx rfl (hb hby at_247) rfl (l' := #[.val (.int aa), .val (.int bb), .val (.int pp), .val (.int qq), .val (.int fl), .val (.int (2 : Int32)), .val (.int (1 : Int32)), .val (.int c0), .val (.int c1), .val (.int d0), .val (.int d1), .val (.ref b146), .val (.ref b149), .val (.int (((pp &&& (2147483647 : Int32)) % (65535 : Int32)) + (1 : Int32))), .val (.int q2), .val (.ref b151), .val (.ref b167), .val (.int (0 : Int32)), .unset]) rfl) ?_
          show Done _ p e below s _ _ (T191.setTop (mkF m 249 #[.val (.int aa), .val (.int bb), .val (.int pp), .val (.int qq), .val (.int fl), .val (.int (2 : Int32)), .val (.int (1 : Int32)), .val (.int c0), .val (.int c1), .val (.int d0), .val (.int d1), .val (.ref b146), .val (.ref b149), .val (.int (((pp &&& (2147483647 : Int32)) % (65535 : Int32)) + (1 : Int32))), .val (.int q2), .val (.ref b151), .val (.ref b167), .val (.int (0 : Int32)), .unset] []))
          exact K249 (0 : Int32) (bP_f (fun q => (own_l21 c0 c1 d0) q.1)).symm
        refine Done.step (fun _ => XS.iload X150.here hx rfl (hb hby at_143) rfl) ?_
        show Done _ p e below s _ _ (T150.setTop (mkF m 145 #[.val (.int aa), .val (.int bb), .val (.int pp), .val (.int qq), .val (.int fl), .val (.int (2 : Int32)), .val (.int (1 : Int32)), .val (.int c0), .val (.int c1), .val (.int d0), .val (.int d1), .val (.ref b146), .val (.ref b149), .val (.int (((pp &&& (2147483647 : Int32)) % (65535 : Int32)) + (1 : Int32))), .unset, .unset, .unset, .unset, .unset] [(.int fl)]))
        refine Done.step (fun _ => XT.iconstV X150.here hx rfl (4 : Int32) (hb hby at_145) (by decide)) ?_
        show Done _ p e below s _ _ (T150.setTop (mkF m 146 #[.val (.int aa), .val (.int bb), .val (.int pp), .val (.int qq), .val (.int fl), .val (.int (2 : Int32)), .val (.int (1 : Int32)), .val (.int c0), .val (.int c1), .val (.int d0), .val (.int d1), .val (.ref b146), .val (.ref b149), .val (.int (((pp &&& (2147483647 : Int32)) % (65535 : Int32)) + (1 : Int32))), .unset, .unset, .unset, .unset, .unset] [(.int (4 : Int32)), (.int fl)]))
        refine Done.step (fun _ => XT.iushr X150.here hx rfl (hb hby at_146) rfl) ?_
        show Done _ p e below s _ _ (T150.setTop (mkF m 147 #[.val (.int aa), .val (.int bb), .val (.int pp), .val (.int qq), .val (.int fl), .val (.int (2 : Int32)), .val (.int (1 : Int32)), .val (.int c0), .val (.int c1), .val (.int d0), .val (.int d1), .val (.ref b146), .val (.ref b149), .val (.int (((pp &&& (2147483647 : Int32)) % (65535 : Int32)) + (1 : Int32))), .unset, .unset, .unset, .unset, .unset] [(.int ((fl.toUInt32 >>> ((4 : Int32) &&& 31).toUInt32).toInt32))]))
        refine Done.step (fun _ => XT.iconstV X150.here hx rfl (1 : Int32) (hb hby at_147) (by decide)) ?_
        show Done _ p e below s _ _ (T150.setTop (mkF m 148 #[.val (.int aa), .val (.int bb), .val (.int pp), .val (.int qq), .val (.int fl), .val (.int (2 : Int32)), .val (.int (1 : Int32)), .val (.int c0), .val (.int c1), .val (.int d0), .val (.int d1), .val (.ref b146), .val (.ref b149), .val (.int (((pp &&& (2147483647 : Int32)) % (65535 : Int32)) + (1 : Int32))), .unset, .unset, .unset, .unset, .unset] [(.int (1 : Int32)), (.int ((fl.toUInt32 >>> ((4 : Int32) &&& 31).toUInt32).toInt32))]))
        refine Done.step (fun _ => XS.iand X150.here hx rfl (hb hby at_148) rfl) ?_
        show Done _ p e below s _ _ (T150.setTop (mkF m 149 #[.val (.int aa), .val (.int bb), .val (.int pp), .val (.int qq), .val (.int fl), .val (.int (2 : Int32)), .val (.int (1 : Int32)), .val (.int c0), .val (.int c1), .val (.int d0), .val (.int d1), .val (.ref b146), .val (.ref b149), .val (.int (((pp &&& (2147483647 : Int32)) % (65535 : Int32)) + (1 : Int32))), .unset, .unset, .unset, .unset, .unset] [(.int (((fl.toUInt32 >>> ((4 : Int32) &&& 31).toUInt32).toInt32) &&& (1 : Int32)))]))
        by_cases hc214 : (((fl.toUInt32 >>> ((4 : Int32) &&& 31).toUInt32).toInt32) &&& (1 : Int32)) = (0 : Int32)
        · refine Done.step (fun _ => XS.ifYes X150.here hx rfl (pc0 := 149) (pc' := 157) rfl (hb hby at_149) rfl (XT.i0_eq_t hc214) (by decide) (by decide)) ?_
          show Done _ p e below s _ _ (T150.setTop (mkF m 157 #[.val (.int aa), .val (.int bb), .val (.int pp), .val (.int qq), .val (.int fl), .val (.int (2 : Int32)), .val (.int (1 : Int32)), .val (.int c0), .val (.int c1), .val (.int d0), .val (.int d1), .val (.ref b146), .val (.ref b149), .val (.int (((pp &&& (2147483647 : Int32)) % (65535 : Int32)) + (1 : Int32))), .unset, .unset, .unset, .unset, .unset] []))
          refine Done.step (fun _ => XS.iloadN X150.here hx rfl (hb hby at_157) rfl) ?_
          show Done _ p e below s _ _ (T150.setTop (mkF m 158 #[.val (.int aa), .val (.int bb), .val (.int pp), .val (.int qq), .val (.int fl), .val (.int (2 : Int32)), .val (.int (1 : Int32)), .val (.int c0), .val (.int c1), .val (.int d0), .val (.int d1), .val (.ref b146), .val (.ref b149), .val (.int (((pp &&& (2147483647 : Int32)) % (65535 : Int32)) + (1 : Int32))), .unset, .unset, .unset, .unset, .unset] [(.int qq)]))
          refine Done.step (fun _ => Stand.ldcI X150 hx hown (mvT hZ (wAt hw 1 rfl)) (g := (mkF m 158 #[.val (.int aa), .val (.int bb), .val (.int pp), .val (.int qq), .val (.int fl), .val (.int (2 : Int32)), .val (.int (1 : Int32)), .val (.int c0), .val (.int c1), .val (.int d0), .val (.int d1), .val (.ref b146), .val (.ref b149), .val (.int (((pp &&& (2147483647 : Int32)) % (65535 : Int32)) + (1 : Int32))), .unset, .unset, .unset, .unset, .unset] [(.int qq)])) rfl (hb hby at_158)) ?_
          show Done _ p e below s _ _ (T150.setTop (mkF m 160 #[.val (.int aa), .val (.int bb), .val (.int pp), .val (.int qq), .val (.int fl), .val (.int (2 : Int32)), .val (.int (1 : Int32)), .val (.int c0), .val (.int c1), .val (.int d0), .val (.int d1), .val (.ref b146), .val (.ref b149), .val (.int (((pp &&& (2147483647 : Int32)) % (65535 : Int32)) + (1 : Int32))), .unset, .unset, .unset, .unset, .unset] [(.int (2147483647 : Int32)), (.int qq)]))
          refine Done.step (fun _ => XS.iand X150.here hx rfl (hb hby at_160) rfl) ?_
          show Done _ p e below s _ _ (T150.setTop (mkF m 161 #[.val (.int aa), .val (.int bb), .val (.int pp), .val (.int qq), .val (.int fl), .val (.int (2 : Int32)), .val (.int (1 : Int32)), .val (.int c0), .val (.int c1), .val (.int d0), .val (.int d1), .val (.ref b146), .val (.ref b149), .val (.int (((pp &&& (2147483647 : Int32)) % (65535 : Int32)) + (1 : Int32))), .unset, .unset, .unset, .unset, .unset] [(.int (qq &&& (2147483647 : Int32)))]))
          refine Done.step (fun _ => Stand.ldcI X150 hx hown (mvT hZ (wAt hw 2 rfl)) (g := (mkF m 161 #[.val (.int aa), .val (.int bb), .val (.int pp), .val (.int qq), .val (.int fl), .val (.int (2 : Int32)), .val (.int (1 : Int32)), .val (.int c0), .val (.int c1), .val (.int d0), .val (.int d1), .val (.ref b146), .val (.ref b149), .val (.int (((pp &&& (2147483647 : Int32)) % (65535 : Int32)) + (1 : Int32))), .unset, .unset, .unset, .unset, .unset] [(.int (qq &&& (2147483647 : Int32)))])) rfl (hb hby at_161)) ?_
          show Done _ p e below s _ _ (T150.setTop (mkF m 163 #[.val (.int aa), .val (.int bb), .val (.int pp), .val (.int qq), .val (.int fl), .val (.int (2 : Int32)), .val (.int (1 : Int32)), .val (.int c0), .val (.int c1), .val (.int d0), .val (.int d1), .val (.ref b146), .val (.ref b149), .val (.int (((pp &&& (2147483647 : Int32)) % (65535 : Int32)) + (1 : Int32))), .unset, .unset, .unset, .unset, .unset] [(.int (65535 : Int32)), (.int (qq &&& (2147483647 : Int32)))]))
          refine Done.step (fun _ => iremM X150 hx rfl (hb hby at_163) rfl (by decide)) ?_
          show Done _ p e below s _ _ (T150.setTop (mkF m 164 #[.val (.int aa), .val (.int bb), .val (.int pp), .val (.int qq), .val (.int fl), .val (.int (2 : Int32)), .val (.int (1 : Int32)), .val (.int c0), .val (.int c1), .val (.int d0), .val (.int d1), .val (.ref b146), .val (.ref b149), .val (.int (((pp &&& (2147483647 : Int32)) % (65535 : Int32)) + (1 : Int32))), .unset, .unset, .unset, .unset, .unset] [(.int ((qq &&& (2147483647 : Int32)) % (65535 : Int32)))]))
          refine Done.step (fun _ => XT.iconstV X150.here hx rfl (1 : Int32) (hb hby at_164) (by decide)) ?_
          show Done _ p e below s _ _ (T150.setTop (mkF m 165 #[.val (.int aa), .val (.int bb), .val (.int pp), .val (.int qq), .val (.int fl), .val (.int (2 : Int32)), .val (.int (1 : Int32)), .val (.int c0), .val (.int c1), .val (.int d0), .val (.int d1), .val (.ref b146), .val (.ref b149), .val (.int (((pp &&& (2147483647 : Int32)) % (65535 : Int32)) + (1 : Int32))), .unset, .unset, .unset, .unset, .unset] [(.int (1 : Int32)), (.int ((qq &&& (2147483647 : Int32)) % (65535 : Int32)))]))
          refine Done.step (fun _ => XS.iadd X150.here hx rfl (hb hby at_165) rfl) ?_
          show Done _ p e below s _ _ (T150.setTop (mkF m 166 #[.val (.int aa), .val (.int bb), .val (.int pp), .val (.int qq), .val (.int fl), .val (.int (2 : Int32)), .val (.int (1 : Int32)), .val (.int c0), .val (.int c1), .val (.int d0), .val (.int d1), .val (.ref b146), .val (.ref b149), .val (.int (((pp &&& (2147483647 : Int32)) % (65535 : Int32)) + (1 : Int32))), .unset, .unset, .unset, .unset, .unset] [(.int (((qq &&& (2147483647 : Int32)) % (65535 : Int32)) + (1 : Int32)))]))
          refine Done.step (fun _ => XS.istore X150.here hx rfl (hb hby at_166) rfl (l' := #[.val (.int aa), .val (.int bb), .val (.int pp), .val (.int qq), .val (.int fl), .val (.int (2 : Int32)), .val (.int (1 : Int32)), .val (.int c0), .val (.int c1), .val (.int d0), .val (.int d1), .val (.ref b146), .val (.ref b149), .val (.int (((pp &&& (2147483647 : Int32)) % (65535 : Int32)) + (1 : Int32))), .val (.int (((qq &&& (2147483647 : Int32)) % (65535 : Int32)) + (1 : Int32))), .unset, .unset, .unset, .unset]) rfl) ?_
          show Done _ p e below s _ _ (T150.setTop (mkF m 168 #[.val (.int aa), .val (.int bb), .val (.int pp), .val (.int qq), .val (.int fl), .val (.int (2 : Int32)), .val (.int (1 : Int32)), .val (.int c0), .val (.int c1), .val (.int d0), .val (.int d1), .val (.ref b146), .val (.ref b149), .val (.int (((pp &&& (2147483647 : Int32)) % (65535 : Int32)) + (1 : Int32))), .val (.int (((qq &&& (2147483647 : Int32)) % (65535 : Int32)) + (1 : Int32))), .unset, .unset, .unset, .unset] []))
          exact K168 (((qq &&& (2147483647 : Int32)) % (65535 : Int32)) + (1 : Int32)) (own_port _).1 (own_port _).2
        · refine Done.step (fun _ => XS.ifNo X150.here hx rfl (hb hby at_149) rfl (XT.i0_eq_f hc214)) ?_
          show Done _ p e below s _ _ (T150.setTop (mkF m 152 #[.val (.int aa), .val (.int bb), .val (.int pp), .val (.int qq), .val (.int fl), .val (.int (2 : Int32)), .val (.int (1 : Int32)), .val (.int c0), .val (.int c1), .val (.int d0), .val (.int d1), .val (.ref b146), .val (.ref b149), .val (.int (((pp &&& (2147483647 : Int32)) % (65535 : Int32)) + (1 : Int32))), .unset, .unset, .unset, .unset, .unset] []))
          refine Done.step (fun _ => XS.iload X150.here hx rfl (hb hby at_152) rfl) ?_
          show Done _ p e below s _ _ (T150.setTop (mkF m 154 #[.val (.int aa), .val (.int bb), .val (.int pp), .val (.int qq), .val (.int fl), .val (.int (2 : Int32)), .val (.int (1 : Int32)), .val (.int c0), .val (.int c1), .val (.int d0), .val (.int d1), .val (.ref b146), .val (.ref b149), .val (.int (((pp &&& (2147483647 : Int32)) % (65535 : Int32)) + (1 : Int32))), .unset, .unset, .unset, .unset, .unset] [(.int (((pp &&& (2147483647 : Int32)) % (65535 : Int32)) + (1 : Int32)))]))
          refine Done.step (fun _ => XS.goto X150.here hx rfl (pc0 := 154) (pc' := 166) rfl (hb hby at_154) (by decide) (by decide)) ?_
          show Done _ p e below s _ _ (T150.setTop (mkF m 166 #[.val (.int aa), .val (.int bb), .val (.int pp), .val (.int qq), .val (.int fl), .val (.int (2 : Int32)), .val (.int (1 : Int32)), .val (.int c0), .val (.int c1), .val (.int d0), .val (.int d1), .val (.ref b146), .val (.ref b149), .val (.int (((pp &&& (2147483647 : Int32)) % (65535 : Int32)) + (1 : Int32))), .unset, .unset, .unset, .unset, .unset] [(.int (((pp &&& (2147483647 : Int32)) % (65535 : Int32)) + (1 : Int32)))]))
          refine Done.step (fun _ => XS.istore X150.here hx rfl (hb hby at_166) rfl (l' := #[.val (.int aa), .val (.int bb), .val (.int pp), .val (.int qq), .val (.int fl), .val (.int (2 : Int32)), .val (.int (1 : Int32)), .val (.int c0), .val (.int c1), .val (.int d0), .val (.int d1), .val (.ref b146), .val (.ref b149), .val (.int (((pp &&& (2147483647 : Int32)) % (65535 : Int32)) + (1 : Int32))), .val (.int (((pp &&& (2147483647 : Int32)) % (65535 : Int32)) + (1 : Int32))), .unset, .unset, .unset, .unset]) rfl) ?_
          show Done _ p e below s _ _ (T150.setTop (mkF m 168 #[.val (.int aa), .val (.int bb), .val (.int pp), .val (.int qq), .val (.int fl), .val (.int (2 : Int32)), .val (.int (1 : Int32)), .val (.int c0), .val (.int c1), .val (.int d0), .val (.int d1), .val (.ref b146), .val (.ref b149), .val (.int (((pp &&& (2147483647 : Int32)) % (65535 : Int32)) + (1 : Int32))), .val (.int (((pp &&& (2147483647 : Int32)) % (65535 : Int32)) + (1 : Int32))), .unset, .unset, .unset, .unset] []))
          exact K168 (((pp &&& (2147483647 : Int32)) % (65535 : Int32)) + (1 : Int32)) (own_port _).1 (own_port _).2
      refine Done.step (fun _ => XS.iload X0.here hx rfl (hb hby at_37) rfl) ?_
      show Done _ p e below s _ _ (T0.setTop (mkF m 39 #[.val (.int aa), .val (.int bb), .val (.int pp), .val (.int qq), .val (.int fl), .val (.int (2 : Int32)), .val (.int (1 : Int32)), .val (.int ((aa &&& (255 : Int32)).toUInt32.toUInt16.toUInt32.toInt32)), .val (.int ((((aa.toUInt32 >>> ((8 : Int32) &&& 31).toUInt32).toInt32) &&& (255 : Int32)).toUInt32.toUInt16.toUInt32.toInt32)), .unset, .unset, .unset, .unset, .unset, .unset, .unset, .unset, .unset, .unset] [(.int fl)]))
      refine Done.step (fun _ => XT.iconstV X0.here hx rfl (2 : Int32) (hb hby at_39) (by decide)) ?_
      show Done _ p e below s _ _ (T0.setTop (mkF m 40 #[.val (.int aa), .val (.int bb), .val (.int pp), .val (.int qq), .val (.int fl), .val (.int (2 : Int32)), .val (.int (1 : Int32)), .val (.int ((aa &&& (255 : Int32)).toUInt32.toUInt16.toUInt32.toInt32)), .val (.int ((((aa.toUInt32 >>> ((8 : Int32) &&& 31).toUInt32).toInt32) &&& (255 : Int32)).toUInt32.toUInt16.toUInt32.toInt32)), .unset, .unset, .unset, .unset, .unset, .unset, .unset, .unset, .unset, .unset] [(.int (2 : Int32)), (.int fl)]))
      refine Done.step (fun _ => XT.iushr X0.here hx rfl (hb hby at_40) rfl) ?_
      show Done _ p e below s _ _ (T0.setTop (mkF m 41 #[.val (.int aa), .val (.int bb), .val (.int pp), .val (.int qq), .val (.int fl), .val (.int (2 : Int32)), .val (.int (1 : Int32)), .val (.int ((aa &&& (255 : Int32)).toUInt32.toUInt16.toUInt32.toInt32)), .val (.int ((((aa.toUInt32 >>> ((8 : Int32) &&& 31).toUInt32).toInt32) &&& (255 : Int32)).toUInt32.toUInt16.toUInt32.toInt32)), .unset, .unset, .unset, .unset, .unset, .unset, .unset, .unset, .unset, .unset] [(.int ((fl.toUInt32 >>> ((2 : Int32) &&& 31).toUInt32).toInt32))]))
      refine Done.step (fun _ => XT.iconstV X0.here hx rfl (1 : Int32) (hb hby at_41) (by decide)) ?_
      show Done _ p e below s _ _ (T0.setTop (mkF m 42 #[.val (.int aa), .val (.int bb), .val (.int pp), .val (.int qq), .val (.int fl), .val (.int (2 : Int32)), .val (.int (1 : Int32)), .val (.int ((aa &&& (255 : Int32)).toUInt32.toUInt16.toUInt32.toInt32)), .val (.int ((((aa.toUInt32 >>> ((8 : Int32) &&& 31).toUInt32).toInt32) &&& (255 : Int32)).toUInt32.toUInt16.toUInt32.toInt32)), .unset, .unset, .unset, .unset, .unset, .unset, .unset, .unset, .unset, .unset] [(.int (1 : Int32)), (.int ((fl.toUInt32 >>> ((2 : Int32) &&& 31).toUInt32).toInt32))]))
      refine Done.step (fun _ => XS.iand X0.here hx rfl (hb hby at_42) rfl) ?_
      show Done _ p e below s _ _ (T0.setTop (mkF m 43 #[.val (.int aa), .val (.int bb), .val (.int pp), .val (.int qq), .val (.int fl), .val (.int (2 : Int32)), .val (.int (1 : Int32)), .val (.int ((aa &&& (255 : Int32)).toUInt32.toUInt16.toUInt32.toInt32)), .val (.int ((((aa.toUInt32 >>> ((8 : Int32) &&& 31).toUInt32).toInt32) &&& (255 : Int32)).toUInt32.toUInt16.toUInt32.toInt32)), .unset, .unset, .unset, .unset, .unset, .unset, .unset, .unset, .unset, .unset] [(.int (((fl.toUInt32 >>> ((2 : Int32) &&& 31).toUInt32).toInt32) &&& (1 : Int32)))]))
      by_cases hc215 : (((fl.toUInt32 >>> ((2 : Int32) &&& 31).toUInt32).toInt32) &&& (1 : Int32)) = (0 : Int32)
      · refine Done.step (fun _ => XS.ifYes X0.here hx rfl (pc0 := 43) (pc' := 51) rfl (hb hby at_43) rfl (XT.i0_eq_t hc215) (by decide) (by decide)) ?_
        show Done _ p e below s _ _ (T0.setTop (mkF m 51 #[.val (.int aa), .val (.int bb), .val (.int pp), .val (.int qq), .val (.int fl), .val (.int (2 : Int32)), .val (.int (1 : Int32)), .val (.int ((aa &&& (255 : Int32)).toUInt32.toUInt16.toUInt32.toInt32)), .val (.int ((((aa.toUInt32 >>> ((8 : Int32) &&& 31).toUInt32).toInt32) &&& (255 : Int32)).toUInt32.toUInt16.toUInt32.toInt32)), .unset, .unset, .unset, .unset, .unset, .unset, .unset, .unset, .unset, .unset] []))
        refine Done.step (fun _ => XS.iloadN X0.here hx rfl (hb hby at_51) rfl) ?_
        show Done _ p e below s _ _ (T0.setTop (mkF m 52 #[.val (.int aa), .val (.int bb), .val (.int pp), .val (.int qq), .val (.int fl), .val (.int (2 : Int32)), .val (.int (1 : Int32)), .val (.int ((aa &&& (255 : Int32)).toUInt32.toUInt16.toUInt32.toInt32)), .val (.int ((((aa.toUInt32 >>> ((8 : Int32) &&& 31).toUInt32).toInt32) &&& (255 : Int32)).toUInt32.toUInt16.toUInt32.toInt32)), .unset, .unset, .unset, .unset, .unset, .unset, .unset, .unset, .unset, .unset] [(.int bb)]))
        refine Done.step (fun _ => XT.sipushV X0.here hx rfl (255 : Int32) (hb hby at_52) (by decide)) ?_
        show Done _ p e below s _ _ (T0.setTop (mkF m 55 #[.val (.int aa), .val (.int bb), .val (.int pp), .val (.int qq), .val (.int fl), .val (.int (2 : Int32)), .val (.int (1 : Int32)), .val (.int ((aa &&& (255 : Int32)).toUInt32.toUInt16.toUInt32.toInt32)), .val (.int ((((aa.toUInt32 >>> ((8 : Int32) &&& 31).toUInt32).toInt32) &&& (255 : Int32)).toUInt32.toUInt16.toUInt32.toInt32)), .unset, .unset, .unset, .unset, .unset, .unset, .unset, .unset, .unset, .unset] [(.int (255 : Int32)), (.int bb)]))
        refine Done.step (fun _ => XS.iand X0.here hx rfl (hb hby at_55) rfl) ?_
        show Done _ p e below s _ _ (T0.setTop (mkF m 56 #[.val (.int aa), .val (.int bb), .val (.int pp), .val (.int qq), .val (.int fl), .val (.int (2 : Int32)), .val (.int (1 : Int32)), .val (.int ((aa &&& (255 : Int32)).toUInt32.toUInt16.toUInt32.toInt32)), .val (.int ((((aa.toUInt32 >>> ((8 : Int32) &&& 31).toUInt32).toInt32) &&& (255 : Int32)).toUInt32.toUInt16.toUInt32.toInt32)), .unset, .unset, .unset, .unset, .unset, .unset, .unset, .unset, .unset, .unset] [(.int (bb &&& (255 : Int32)))]))
        refine Done.step (fun _ => XT.i2c X0.here hx rfl (hb hby at_56) rfl) ?_
        show Done _ p e below s _ _ (T0.setTop (mkF m 57 #[.val (.int aa), .val (.int bb), .val (.int pp), .val (.int qq), .val (.int fl), .val (.int (2 : Int32)), .val (.int (1 : Int32)), .val (.int ((aa &&& (255 : Int32)).toUInt32.toUInt16.toUInt32.toInt32)), .val (.int ((((aa.toUInt32 >>> ((8 : Int32) &&& 31).toUInt32).toInt32) &&& (255 : Int32)).toUInt32.toUInt16.toUInt32.toInt32)), .unset, .unset, .unset, .unset, .unset, .unset, .unset, .unset, .unset, .unset] [(.int ((bb &&& (255 : Int32)).toUInt32.toUInt16.toUInt32.toInt32))]))
        refine Done.step (fun _ => XS.istore X0.here hx rfl (hb hby at_57) rfl (l' := #[.val (.int aa), .val (.int bb), .val (.int pp), .val (.int qq), .val (.int fl), .val (.int (2 : Int32)), .val (.int (1 : Int32)), .val (.int ((aa &&& (255 : Int32)).toUInt32.toUInt16.toUInt32.toInt32)), .val (.int ((((aa.toUInt32 >>> ((8 : Int32) &&& 31).toUInt32).toInt32) &&& (255 : Int32)).toUInt32.toUInt16.toUInt32.toInt32)), .val (.int ((bb &&& (255 : Int32)).toUInt32.toUInt16.toUInt32.toInt32)), .unset, .unset, .unset, .unset, .unset, .unset, .unset, .unset, .unset]) rfl) ?_
        show Done _ p e below s _ _ (T0.setTop (mkF m 59 #[.val (.int aa), .val (.int bb), .val (.int pp), .val (.int qq), .val (.int fl), .val (.int (2 : Int32)), .val (.int (1 : Int32)), .val (.int ((aa &&& (255 : Int32)).toUInt32.toUInt16.toUInt32.toInt32)), .val (.int ((((aa.toUInt32 >>> ((8 : Int32) &&& 31).toUInt32).toInt32) &&& (255 : Int32)).toUInt32.toUInt16.toUInt32.toInt32)), .val (.int ((bb &&& (255 : Int32)).toUInt32.toUInt16.toUInt32.toInt32)), .unset, .unset, .unset, .unset, .unset, .unset, .unset, .unset, .unset] []))
        refine Done.step (fun _ => XS.iload X0.here hx rfl (hb hby at_59) rfl) ?_
        show Done _ p e below s _ _ (T0.setTop (mkF m 61 #[.val (.int aa), .val (.int bb), .val (.int pp), .val (.int qq), .val (.int fl), .val (.int (2 : Int32)), .val (.int (1 : Int32)), .val (.int ((aa &&& (255 : Int32)).toUInt32.toUInt16.toUInt32.toInt32)), .val (.int ((((aa.toUInt32 >>> ((8 : Int32) &&& 31).toUInt32).toInt32) &&& (255 : Int32)).toUInt32.toUInt16.toUInt32.toInt32)), .val (.int ((bb &&& (255 : Int32)).toUInt32.toUInt16.toUInt32.toInt32)), .unset, .unset, .unset, .unset, .unset, .unset, .unset, .unset, .unset] [(.int fl)]))
        refine Done.step (fun _ => XT.iconstV X0.here hx rfl (3 : Int32) (hb hby at_61) (by decide)) ?_
        show Done _ p e below s _ _ (T0.setTop (mkF m 62 #[.val (.int aa), .val (.int bb), .val (.int pp), .val (.int qq), .val (.int fl), .val (.int (2 : Int32)), .val (.int (1 : Int32)), .val (.int ((aa &&& (255 : Int32)).toUInt32.toUInt16.toUInt32.toInt32)), .val (.int ((((aa.toUInt32 >>> ((8 : Int32) &&& 31).toUInt32).toInt32) &&& (255 : Int32)).toUInt32.toUInt16.toUInt32.toInt32)), .val (.int ((bb &&& (255 : Int32)).toUInt32.toUInt16.toUInt32.toInt32)), .unset, .unset, .unset, .unset, .unset, .unset, .unset, .unset, .unset] [(.int (3 : Int32)), (.int fl)]))
        refine Done.step (fun _ => XT.iushr X0.here hx rfl (hb hby at_62) rfl) ?_
        show Done _ p e below s _ _ (T0.setTop (mkF m 63 #[.val (.int aa), .val (.int bb), .val (.int pp), .val (.int qq), .val (.int fl), .val (.int (2 : Int32)), .val (.int (1 : Int32)), .val (.int ((aa &&& (255 : Int32)).toUInt32.toUInt16.toUInt32.toInt32)), .val (.int ((((aa.toUInt32 >>> ((8 : Int32) &&& 31).toUInt32).toInt32) &&& (255 : Int32)).toUInt32.toUInt16.toUInt32.toInt32)), .val (.int ((bb &&& (255 : Int32)).toUInt32.toUInt16.toUInt32.toInt32)), .unset, .unset, .unset, .unset, .unset, .unset, .unset, .unset, .unset] [(.int ((fl.toUInt32 >>> ((3 : Int32) &&& 31).toUInt32).toInt32))]))
        refine Done.step (fun _ => XT.iconstV X0.here hx rfl (1 : Int32) (hb hby at_63) (by decide)) ?_
        show Done _ p e below s _ _ (T0.setTop (mkF m 64 #[.val (.int aa), .val (.int bb), .val (.int pp), .val (.int qq), .val (.int fl), .val (.int (2 : Int32)), .val (.int (1 : Int32)), .val (.int ((aa &&& (255 : Int32)).toUInt32.toUInt16.toUInt32.toInt32)), .val (.int ((((aa.toUInt32 >>> ((8 : Int32) &&& 31).toUInt32).toInt32) &&& (255 : Int32)).toUInt32.toUInt16.toUInt32.toInt32)), .val (.int ((bb &&& (255 : Int32)).toUInt32.toUInt16.toUInt32.toInt32)), .unset, .unset, .unset, .unset, .unset, .unset, .unset, .unset, .unset] [(.int (1 : Int32)), (.int ((fl.toUInt32 >>> ((3 : Int32) &&& 31).toUInt32).toInt32))]))
        refine Done.step (fun _ => XS.iand X0.here hx rfl (hb hby at_64) rfl) ?_
        show Done _ p e below s _ _ (T0.setTop (mkF m 65 #[.val (.int aa), .val (.int bb), .val (.int pp), .val (.int qq), .val (.int fl), .val (.int (2 : Int32)), .val (.int (1 : Int32)), .val (.int ((aa &&& (255 : Int32)).toUInt32.toUInt16.toUInt32.toInt32)), .val (.int ((((aa.toUInt32 >>> ((8 : Int32) &&& 31).toUInt32).toInt32) &&& (255 : Int32)).toUInt32.toUInt16.toUInt32.toInt32)), .val (.int ((bb &&& (255 : Int32)).toUInt32.toUInt16.toUInt32.toInt32)), .unset, .unset, .unset, .unset, .unset, .unset, .unset, .unset, .unset] [(.int (((fl.toUInt32 >>> ((3 : Int32) &&& 31).toUInt32).toInt32) &&& (1 : Int32)))]))
        by_cases hc216 : (((fl.toUInt32 >>> ((3 : Int32) &&& 31).toUInt32).toInt32) &&& (1 : Int32)) = (0 : Int32)
        · refine Done.step (fun _ => XS.ifYes X0.here hx rfl (pc0 := 65) (pc' := 73) rfl (hb hby at_65) rfl (XT.i0_eq_t hc216) (by decide) (by decide)) ?_
          show Done _ p e below s _ _ (T0.setTop (mkF m 73 #[.val (.int aa), .val (.int bb), .val (.int pp), .val (.int qq), .val (.int fl), .val (.int (2 : Int32)), .val (.int (1 : Int32)), .val (.int ((aa &&& (255 : Int32)).toUInt32.toUInt16.toUInt32.toInt32)), .val (.int ((((aa.toUInt32 >>> ((8 : Int32) &&& 31).toUInt32).toInt32) &&& (255 : Int32)).toUInt32.toUInt16.toUInt32.toInt32)), .val (.int ((bb &&& (255 : Int32)).toUInt32.toUInt16.toUInt32.toInt32)), .unset, .unset, .unset, .unset, .unset, .unset, .unset, .unset, .unset] []))
          refine Done.step (fun _ => XS.iloadN X0.here hx rfl (hb hby at_73) rfl) ?_
          show Done _ p e below s _ _ (T0.setTop (mkF m 74 #[.val (.int aa), .val (.int bb), .val (.int pp), .val (.int qq), .val (.int fl), .val (.int (2 : Int32)), .val (.int (1 : Int32)), .val (.int ((aa &&& (255 : Int32)).toUInt32.toUInt16.toUInt32.toInt32)), .val (.int ((((aa.toUInt32 >>> ((8 : Int32) &&& 31).toUInt32).toInt32) &&& (255 : Int32)).toUInt32.toUInt16.toUInt32.toInt32)), .val (.int ((bb &&& (255 : Int32)).toUInt32.toUInt16.toUInt32.toInt32)), .unset, .unset, .unset, .unset, .unset, .unset, .unset, .unset, .unset] [(.int bb)]))
          refine Done.step (fun _ => XT.bipushV X0.here hx rfl (8 : Int32) (hb hby at_74) (by decide)) ?_
          show Done _ p e below s _ _ (T0.setTop (mkF m 76 #[.val (.int aa), .val (.int bb), .val (.int pp), .val (.int qq), .val (.int fl), .val (.int (2 : Int32)), .val (.int (1 : Int32)), .val (.int ((aa &&& (255 : Int32)).toUInt32.toUInt16.toUInt32.toInt32)), .val (.int ((((aa.toUInt32 >>> ((8 : Int32) &&& 31).toUInt32).toInt32) &&& (255 : Int32)).toUInt32.toUInt16.toUInt32.toInt32)), .val (.int ((bb &&& (255 : Int32)).toUInt32.toUInt16.toUInt32.toInt32)), .unset, .unset, .unset, .unset, .unset, .unset, .unset, .unset, .unset] [(.int (8 : Int32)), (.int bb)]))
          refine Done.step (fun _ => XT.iushr X0.here hx rfl (hb hby at_76) rfl) ?_
          show Done _ p e below s _ _ (T0.setTop (mkF m 77 #[.val (.int aa), .val (.int bb), .val (.int pp), .val (.int qq), .val (.int fl), .val (.int (2 : Int32)), .val (.int (1 : Int32)), .val (.int ((aa &&& (255 : Int32)).toUInt32.toUInt16.toUInt32.toInt32)), .val (.int ((((aa.toUInt32 >>> ((8 : Int32) &&& 31).toUInt32).toInt32) &&& (255 : Int32)).toUInt32.toUInt16.toUInt32.toInt32)), .val (.int ((bb &&& (255 : Int32)).toUInt32.toUInt16.toUInt32.toInt32)), .unset, .unset, .unset, .unset, .unset, .unset, .unset, .unset, .unset] [(.int ((bb.toUInt32 >>> ((8 : Int32) &&& 31).toUInt32).toInt32))]))
          refine Done.step (fun _ => XT.sipushV X0.here hx rfl (255 : Int32) (hb hby at_77) (by decide)) ?_
          show Done _ p e below s _ _ (T0.setTop (mkF m 80 #[.val (.int aa), .val (.int bb), .val (.int pp), .val (.int qq), .val (.int fl), .val (.int (2 : Int32)), .val (.int (1 : Int32)), .val (.int ((aa &&& (255 : Int32)).toUInt32.toUInt16.toUInt32.toInt32)), .val (.int ((((aa.toUInt32 >>> ((8 : Int32) &&& 31).toUInt32).toInt32) &&& (255 : Int32)).toUInt32.toUInt16.toUInt32.toInt32)), .val (.int ((bb &&& (255 : Int32)).toUInt32.toUInt16.toUInt32.toInt32)), .unset, .unset, .unset, .unset, .unset, .unset, .unset, .unset, .unset] [(.int (255 : Int32)), (.int ((bb.toUInt32 >>> ((8 : Int32) &&& 31).toUInt32).toInt32))]))
          refine Done.step (fun _ => XS.iand X0.here hx rfl (hb hby at_80) rfl) ?_
          show Done _ p e below s _ _ (T0.setTop (mkF m 81 #[.val (.int aa), .val (.int bb), .val (.int pp), .val (.int qq), .val (.int fl), .val (.int (2 : Int32)), .val (.int (1 : Int32)), .val (.int ((aa &&& (255 : Int32)).toUInt32.toUInt16.toUInt32.toInt32)), .val (.int ((((aa.toUInt32 >>> ((8 : Int32) &&& 31).toUInt32).toInt32) &&& (255 : Int32)).toUInt32.toUInt16.toUInt32.toInt32)), .val (.int ((bb &&& (255 : Int32)).toUInt32.toUInt16.toUInt32.toInt32)), .unset, .unset, .unset, .unset, .unset, .unset, .unset, .unset, .unset] [(.int (((bb.toUInt32 >>> ((8 : Int32) &&& 31).toUInt32).toInt32) &&& (255 : Int32)))]))
          refine Done.step (fun _ => XT.i2c X0.here hx rfl (hb hby at_81) rfl) ?_
          show Done _ p e below s _ _ (T0.setTop (mkF m 82 #[.val (.int aa), .val (.int bb), .val (.int pp), .val (.int qq), .val (.int fl), .val (.int (2 : Int32)), .val (.int (1 : Int32)), .val (.int ((aa &&& (255 : Int32)).toUInt32.toUInt16.toUInt32.toInt32)), .val (.int ((((aa.toUInt32 >>> ((8 : Int32) &&& 31).toUInt32).toInt32) &&& (255 : Int32)).toUInt32.toUInt16.toUInt32.toInt32)), .val (.int ((bb &&& (255 : Int32)).toUInt32.toUInt16.toUInt32.toInt32)), .unset, .unset, .unset, .unset, .unset, .unset, .unset, .unset, .unset] [(.int ((((bb.toUInt32 >>> ((8 : Int32) &&& 31).toUInt32).toInt32) &&& (255 : Int32)).toUInt32.toUInt16.toUInt32.toInt32))]))
          refine Done.step (fun _ => XS.istore X0.here hx rfl (hb hby at_82) rfl (l' := #[.val (.int aa), .val (.int bb), .val (.int pp), .val (.int qq), .val (.int fl), .val (.int (2 : Int32)), .val (.int (1 : Int32)), .val (.int ((aa &&& (255 : Int32)).toUInt32.toUInt16.toUInt32.toInt32)), .val (.int ((((aa.toUInt32 >>> ((8 : Int32) &&& 31).toUInt32).toInt32) &&& (255 : Int32)).toUInt32.toUInt16.toUInt32.toInt32)), .val (.int ((bb &&& (255 : Int32)).toUInt32.toUInt16.toUInt32.toInt32)), .val (.int ((((bb.toUInt32 >>> ((8 : Int32) &&& 31).toUInt32).toInt32) &&& (255 : Int32)).toUInt32.toUInt16.toUInt32.toInt32)), .unset, .unset, .unset, .unset, .unset, .unset, .unset, .unset]) rfl) ?_
          show Done _ p e below s _ _ (T0.setTop (mkF m 84 #[.val (.int aa), .val (.int bb), .val (.int pp), .val (.int qq), .val (.int fl), .val (.int (2 : Int32)), .val (.int (1 : Int32)), .val (.int ((aa &&& (255 : Int32)).toUInt32.toUInt16.toUInt32.toInt32)), .val (.int ((((aa.toUInt32 >>> ((8 : Int32) &&& 31).toUInt32).toInt32) &&& (255 : Int32)).toUInt32.toUInt16.toUInt32.toInt32)), .val (.int ((bb &&& (255 : Int32)).toUInt32.toUInt16.toUInt32.toInt32)), .val (.int ((((bb.toUInt32 >>> ((8 : Int32) &&& 31).toUInt32).toInt32) &&& (255 : Int32)).toUInt32.toUInt16.toUInt32.toInt32)), .unset, .unset, .unset, .unset, .unset, .unset, .unset, .unset] []))
          exact K84 ((aa &&& (255 : Int32)).toUInt32.toUInt16.toUInt32.toInt32) ((((aa.toUInt32 >>> ((8 : Int32) &&& 31).toUInt32).toInt32) &&& (255 : Int32)).toUInt32.toUInt16.toUInt32.toInt32) ((bb &&& (255 : Int32)).toUInt32.toUInt16.toUInt32.toInt32) ((((bb.toUInt32 >>> ((8 : Int32) &&& 31).toUInt32).toInt32) &&& (255 : Int32)).toUInt32.toUInt16.toUInt32.toInt32) (own_ch _) (own_ch _) (own_ch _) (own_ch _)
        · refine Done.step (fun _ => XS.ifNo X0.here hx rfl (hb hby at_65) rfl (XT.i0_eq_f hc216)) ?_
          show Done _ p e below s _ _ (T0.setTop (mkF m 68 #[.val (.int aa), .val (.int bb), .val (.int pp), .val (.int qq), .val (.int fl), .val (.int (2 : Int32)), .val (.int (1 : Int32)), .val (.int ((aa &&& (255 : Int32)).toUInt32.toUInt16.toUInt32.toInt32)), .val (.int ((((aa.toUInt32 >>> ((8 : Int32) &&& 31).toUInt32).toInt32) &&& (255 : Int32)).toUInt32.toUInt16.toUInt32.toInt32)), .val (.int ((bb &&& (255 : Int32)).toUInt32.toUInt16.toUInt32.toInt32)), .unset, .unset, .unset, .unset, .unset, .unset, .unset, .unset, .unset] []))
          refine Done.step (fun _ => XS.iload X0.here hx rfl (hb hby at_68) rfl) ?_
          show Done _ p e below s _ _ (T0.setTop (mkF m 70 #[.val (.int aa), .val (.int bb), .val (.int pp), .val (.int qq), .val (.int fl), .val (.int (2 : Int32)), .val (.int (1 : Int32)), .val (.int ((aa &&& (255 : Int32)).toUInt32.toUInt16.toUInt32.toInt32)), .val (.int ((((aa.toUInt32 >>> ((8 : Int32) &&& 31).toUInt32).toInt32) &&& (255 : Int32)).toUInt32.toUInt16.toUInt32.toInt32)), .val (.int ((bb &&& (255 : Int32)).toUInt32.toUInt16.toUInt32.toInt32)), .unset, .unset, .unset, .unset, .unset, .unset, .unset, .unset, .unset] [(.int ((((aa.toUInt32 >>> ((8 : Int32) &&& 31).toUInt32).toInt32) &&& (255 : Int32)).toUInt32.toUInt16.toUInt32.toInt32))]))
          refine Done.step (fun _ => XS.goto X0.here hx rfl (pc0 := 70) (pc' := 82) rfl (hb hby at_70) (by decide) (by decide)) ?_
          show Done _ p e below s _ _ (T0.setTop (mkF m 82 #[.val (.int aa), .val (.int bb), .val (.int pp), .val (.int qq), .val (.int fl), .val (.int (2 : Int32)), .val (.int (1 : Int32)), .val (.int ((aa &&& (255 : Int32)).toUInt32.toUInt16.toUInt32.toInt32)), .val (.int ((((aa.toUInt32 >>> ((8 : Int32) &&& 31).toUInt32).toInt32) &&& (255 : Int32)).toUInt32.toUInt16.toUInt32.toInt32)), .val (.int ((bb &&& (255 : Int32)).toUInt32.toUInt16.toUInt32.toInt32)), .unset, .unset, .unset, .unset, .unset, .unset, .unset, .unset, .unset] [(.int ((((aa.toUInt32 >>> ((8 : Int32) &&& 31).toUInt32).toInt32) &&& (255 : Int32)).toUInt32.toUInt16.toUInt32.toInt32))]))
          refine Done.step (fun _ => XS.istore X0.here hx rfl (hb hby at_82) rfl (l' := #[.val (.int aa), .val (.int bb), .val (.int pp), .val (.int qq), .val (.int fl), .val (.int (2 : Int32)), .val (.int (1 : Int32)), .val (.int ((aa &&& (255 : Int32)).toUInt32.toUInt16.toUInt32.toInt32)), .val (.int ((((aa.toUInt32 >>> ((8 : Int32) &&& 31).toUInt32).toInt32) &&& (255 : Int32)).toUInt32.toUInt16.toUInt32.toInt32)), .val (.int ((bb &&& (255 : Int32)).toUInt32.toUInt16.toUInt32.toInt32)), .val (.int ((((aa.toUInt32 >>> ((8 : Int32) &&& 31).toUInt32).toInt32) &&& (255 : Int32)).toUInt32.toUInt16.toUInt32.toInt32)), .unset, .unset, .unset, .unset, .unset, .unset, .unset, .unset]) rfl) ?_
          show Done _ p e below s _ _ (T0.setTop (mkF m 84 #[.val (.int aa), .val (.int bb), .val (.int pp), .val (.int qq), .val (.int fl), .val (.int (2 : Int32)), .val (.int (1 : Int32)), .val (.int ((aa &&& (255 : Int32)).toUInt32.toUInt16.toUInt32.toInt32)), .val (.int ((((aa.toUInt32 >>> ((8 : Int32) &&& 31).toUInt32).toInt32) &&& (255 : Int32)).toUInt32.toUInt16.toUInt32.toInt32)), .val (.int ((bb &&& (255 : Int32)).toUInt32.toUInt16.toUInt32.toInt32)), .val (.int ((((aa.toUInt32 >>> ((8 : Int32) &&& 31).toUInt32).toInt32) &&& (255 : Int32)).toUInt32.toUInt16.toUInt32.toInt32)), .unset, .unset, .unset, .unset, .unset, .unset, .unset, .unset] []))
          exact K84 ((aa &&& (255 : Int32)).toUInt32.toUInt16.toUInt32.toInt32) ((((aa.toUInt32 >>> ((8 : Int32) &&& 31).toUInt32).toInt32) &&& (255 : Int32)).toUInt32.toUInt16.toUInt32.toInt32) ((bb &&& (255 : Int32)).toUInt32.toUInt16.toUInt32.toInt32) ((((aa.toUInt32 >>> ((8 : Int32) &&& 31).toUInt32).toInt32) &&& (255 : Int32)).toUInt32.toUInt16.toUInt32.toInt32) (own_ch _) (own_ch _) (own_ch _) (own_ch _)
      · refine Done.step (fun _ => XS.ifNo X0.here hx rfl (hb hby at_43) rfl (XT.i0_eq_f hc215)) ?_
        show Done _ p e below s _ _ (T0.setTop (mkF m 46 #[.val (.int aa), .val (.int bb), .val (.int pp), .val (.int qq), .val (.int fl), .val (.int (2 : Int32)), .val (.int (1 : Int32)), .val (.int ((aa &&& (255 : Int32)).toUInt32.toUInt16.toUInt32.toInt32)), .val (.int ((((aa.toUInt32 >>> ((8 : Int32) &&& 31).toUInt32).toInt32) &&& (255 : Int32)).toUInt32.toUInt16.toUInt32.toInt32)), .unset, .unset, .unset, .unset, .unset, .unset, .unset, .unset, .unset, .unset] []))
        refine Done.step (fun _ => XS.iload X0.here hx rfl (hb hby at_46) rfl) ?_
        show Done _ p e below s _ _ (T0.setTop (mkF m 48 #[.val (.int aa), .val (.int bb), .val (.int pp), .val (.int qq), .val (.int fl), .val (.int (2 : Int32)), .val (.int (1 : Int32)), .val (.int ((aa &&& (255 : Int32)).toUInt32.toUInt16.toUInt32.toInt32)), .val (.int ((((aa.toUInt32 >>> ((8 : Int32) &&& 31).toUInt32).toInt32) &&& (255 : Int32)).toUInt32.toUInt16.toUInt32.toInt32)), .unset, .unset, .unset, .unset, .unset, .unset, .unset, .unset, .unset, .unset] [(.int ((aa &&& (255 : Int32)).toUInt32.toUInt16.toUInt32.toInt32))]))
        refine Done.step (fun _ => XS.goto X0.here hx rfl (pc0 := 48) (pc' := 57) rfl (hb hby at_48) (by decide) (by decide)) ?_
        show Done _ p e below s _ _ (T0.setTop (mkF m 57 #[.val (.int aa), .val (.int bb), .val (.int pp), .val (.int qq), .val (.int fl), .val (.int (2 : Int32)), .val (.int (1 : Int32)), .val (.int ((aa &&& (255 : Int32)).toUInt32.toUInt16.toUInt32.toInt32)), .val (.int ((((aa.toUInt32 >>> ((8 : Int32) &&& 31).toUInt32).toInt32) &&& (255 : Int32)).toUInt32.toUInt16.toUInt32.toInt32)), .unset, .unset, .unset, .unset, .unset, .unset, .unset, .unset, .unset, .unset] [(.int ((aa &&& (255 : Int32)).toUInt32.toUInt16.toUInt32.toInt32))]))
        refine Done.step (fun _ => XS.istore X0.here hx rfl (hb hby at_57) rfl (l' := #[.val (.int aa), .val (.int bb), .val (.int pp), .val (.int qq), .val (.int fl), .val (.int (2 : Int32)), .val (.int (1 : Int32)), .val (.int ((aa &&& (255 : Int32)).toUInt32.toUInt16.toUInt32.toInt32)), .val (.int ((((aa.toUInt32 >>> ((8 : Int32) &&& 31).toUInt32).toInt32) &&& (255 : Int32)).toUInt32.toUInt16.toUInt32.toInt32)), .val (.int ((aa &&& (255 : Int32)).toUInt32.toUInt16.toUInt32.toInt32)), .unset, .unset, .unset, .unset, .unset, .unset, .unset, .unset, .unset]) rfl) ?_
        show Done _ p e below s _ _ (T0.setTop (mkF m 59 #[.val (.int aa), .val (.int bb), .val (.int pp), .val (.int qq), .val (.int fl), .val (.int (2 : Int32)), .val (.int (1 : Int32)), .val (.int ((aa &&& (255 : Int32)).toUInt32.toUInt16.toUInt32.toInt32)), .val (.int ((((aa.toUInt32 >>> ((8 : Int32) &&& 31).toUInt32).toInt32) &&& (255 : Int32)).toUInt32.toUInt16.toUInt32.toInt32)), .val (.int ((aa &&& (255 : Int32)).toUInt32.toUInt16.toUInt32.toInt32)), .unset, .unset, .unset, .unset, .unset, .unset, .unset, .unset, .unset] []))
        refine Done.step (fun _ => XS.iload X0.here hx rfl (hb hby at_59) rfl) ?_
        show Done _ p e below s _ _ (T0.setTop (mkF m 61 #[.val (.int aa), .val (.int bb), .val (.int pp), .val (.int qq), .val (.int fl), .val (.int (2 : Int32)), .val (.int (1 : Int32)), .val (.int ((aa &&& (255 : Int32)).toUInt32.toUInt16.toUInt32.toInt32)), .val (.int ((((aa.toUInt32 >>> ((8 : Int32) &&& 31).toUInt32).toInt32) &&& (255 : Int32)).toUInt32.toUInt16.toUInt32.toInt32)), .val (.int ((aa &&& (255 : Int32)).toUInt32.toUInt16.toUInt32.toInt32)), .unset, .unset, .unset, .unset, .unset, .unset, .unset, .unset, .unset] [(.int fl)]))
        refine Done.step (fun _ => XT.iconstV X0.here hx rfl (3 : Int32) (hb hby at_61) (by decide)) ?_
        show Done _ p e below s _ _ (T0.setTop (mkF m 62 #[.val (.int aa), .val (.int bb), .val (.int pp), .val (.int qq), .val (.int fl), .val (.int (2 : Int32)), .val (.int (1 : Int32)), .val (.int ((aa &&& (255 : Int32)).toUInt32.toUInt16.toUInt32.toInt32)), .val (.int ((((aa.toUInt32 >>> ((8 : Int32) &&& 31).toUInt32).toInt32) &&& (255 : Int32)).toUInt32.toUInt16.toUInt32.toInt32)), .val (.int ((aa &&& (255 : Int32)).toUInt32.toUInt16.toUInt32.toInt32)), .unset, .unset, .unset, .unset, .unset, .unset, .unset, .unset, .unset] [(.int (3 : Int32)), (.int fl)]))
        refine Done.step (fun _ => XT.iushr X0.here hx rfl (hb hby at_62) rfl) ?_
        show Done _ p e below s _ _ (T0.setTop (mkF m 63 #[.val (.int aa), .val (.int bb), .val (.int pp), .val (.int qq), .val (.int fl), .val (.int (2 : Int32)), .val (.int (1 : Int32)), .val (.int ((aa &&& (255 : Int32)).toUInt32.toUInt16.toUInt32.toInt32)), .val (.int ((((aa.toUInt32 >>> ((8 : Int32) &&& 31).toUInt32).toInt32) &&& (255 : Int32)).toUInt32.toUInt16.toUInt32.toInt32)), .val (.int ((aa &&& (255 : Int32)).toUInt32.toUInt16.toUInt32.toInt32)), .unset, .unset, .unset, .unset, .unset, .unset, .unset, .unset, .unset] [(.int ((fl.toUInt32 >>> ((3 : Int32) &&& 31).toUInt32).toInt32))]))
        refine Done.step (fun _ => XT.iconstV X0.here hx rfl (1 : Int32) (hb hby at_63) (by decide)) ?_
        show Done _ p e below s _ _ (T0.setTop (mkF m 64 #[.val (.int aa), .val (.int bb), .val (.int pp), .val (.int qq), .val (.int fl), .val (.int (2 : Int32)), .val (.int (1 : Int32)), .val (.int ((aa &&& (255 : Int32)).toUInt32.toUInt16.toUInt32.toInt32)), .val (.int ((((aa.toUInt32 >>> ((8 : Int32) &&& 31).toUInt32).toInt32) &&& (255 : Int32)).toUInt32.toUInt16.toUInt32.toInt32)), .val (.int ((aa &&& (255 : Int32)).toUInt32.toUInt16.toUInt32.toInt32)), .unset, .unset, .unset, .unset, .unset, .unset, .unset, .unset, .unset] [(.int (1 : Int32)), (.int ((fl.toUInt32 >>> ((3 : Int32) &&& 31).toUInt32).toInt32))]))
        refine Done.step (fun _ => XS.iand X0.here hx rfl (hb hby at_64) rfl) ?_
        show Done _ p e below s _ _ (T0.setTop (mkF m 65 #[.val (.int aa), .val (.int bb), .val (.int pp), .val (.int qq), .val (.int fl), .val (.int (2 : Int32)), .val (.int (1 : Int32)), .val (.int ((aa &&& (255 : Int32)).toUInt32.toUInt16.toUInt32.toInt32)), .val (.int ((((aa.toUInt32 >>> ((8 : Int32) &&& 31).toUInt32).toInt32) &&& (255 : Int32)).toUInt32.toUInt16.toUInt32.toInt32)), .val (.int ((aa &&& (255 : Int32)).toUInt32.toUInt16.toUInt32.toInt32)), .unset, .unset, .unset, .unset, .unset, .unset, .unset, .unset, .unset] [(.int (((fl.toUInt32 >>> ((3 : Int32) &&& 31).toUInt32).toInt32) &&& (1 : Int32)))]))
        by_cases hc217 : (((fl.toUInt32 >>> ((3 : Int32) &&& 31).toUInt32).toInt32) &&& (1 : Int32)) = (0 : Int32)
        · refine Done.step (fun _ => XS.ifYes X0.here hx rfl (pc0 := 65) (pc' := 73) rfl (hb hby at_65) rfl (XT.i0_eq_t hc217) (by decide) (by decide)) ?_
          show Done _ p e below s _ _ (T0.setTop (mkF m 73 #[.val (.int aa), .val (.int bb), .val (.int pp), .val (.int qq), .val (.int fl), .val (.int (2 : Int32)), .val (.int (1 : Int32)), .val (.int ((aa &&& (255 : Int32)).toUInt32.toUInt16.toUInt32.toInt32)), .val (.int ((((aa.toUInt32 >>> ((8 : Int32) &&& 31).toUInt32).toInt32) &&& (255 : Int32)).toUInt32.toUInt16.toUInt32.toInt32)), .val (.int ((aa &&& (255 : Int32)).toUInt32.toUInt16.toUInt32.toInt32)), .unset, .unset, .unset, .unset, .unset, .unset, .unset, .unset, .unset] []))
          refine Done.step (fun _ => XS.iloadN X0.here hx rfl (hb hby at_73) rfl) ?_
          show Done _ p e below s _ _ (T0.setTop (mkF m 74 #[.val (.int aa), .val (.int bb), .val (.int pp), .val (.int qq), .val (.int fl), .val (.int (2 : Int32)), .val (.int (1 : Int32)), .val (.int ((aa &&& (255 : Int32)).toUInt32.toUInt16.toUInt32.toInt32)), .val (.int ((((aa.toUInt32 >>> ((8 : Int32) &&& 31).toUInt32).toInt32) &&& (255 : Int32)).toUInt32.toUInt16.toUInt32.toInt32)), .val (.int ((aa &&& (255 : Int32)).toUInt32.toUInt16.toUInt32.toInt32)), .unset, .unset, .unset, .unset, .unset, .unset, .unset, .unset, .unset] [(.int bb)]))
          refine Done.step (fun _ => XT.bipushV X0.here hx rfl (8 : Int32) (hb hby at_74) (by decide)) ?_
          show Done _ p e below s _ _ (T0.setTop (mkF m 76 #[.val (.int aa), .val (.int bb), .val (.int pp), .val (.int qq), .val (.int fl), .val (.int (2 : Int32)), .val (.int (1 : Int32)), .val (.int ((aa &&& (255 : Int32)).toUInt32.toUInt16.toUInt32.toInt32)), .val (.int ((((aa.toUInt32 >>> ((8 : Int32) &&& 31).toUInt32).toInt32) &&& (255 : Int32)).toUInt32.toUInt16.toUInt32.toInt32)), .val (.int ((aa &&& (255 : Int32)).toUInt32.toUInt16.toUInt32.toInt32)), .unset, .unset, .unset, .unset, .unset, .unset, .unset, .unset, .unset] [(.int (8 : Int32)), (.int bb)]))
          refine Done.step (fun _ => XT.iushr X0.here hx rfl (hb hby at_76) rfl) ?_
          show Done _ p e below s _ _ (T0.setTop (mkF m 77 #[.val (.int aa), .val (.int bb), .val (.int pp), .val (.int qq), .val (.int fl), .val (.int (2 : Int32)), .val (.int (1 : Int32)), .val (.int ((aa &&& (255 : Int32)).toUInt32.toUInt16.toUInt32.toInt32)), .val (.int ((((aa.toUInt32 >>> ((8 : Int32) &&& 31).toUInt32).toInt32) &&& (255 : Int32)).toUInt32.toUInt16.toUInt32.toInt32)), .val (.int ((aa &&& (255 : Int32)).toUInt32.toUInt16.toUInt32.toInt32)), .unset, .unset, .unset, .unset, .unset, .unset, .unset, .unset, .unset] [(.int ((bb.toUInt32 >>> ((8 : Int32) &&& 31).toUInt32).toInt32))]))
          refine Done.step (fun _ => XT.sipushV X0.here hx rfl (255 : Int32) (hb hby at_77) (by decide)) ?_
          show Done _ p e below s _ _ (T0.setTop (mkF m 80 #[.val (.int aa), .val (.int bb), .val (.int pp), .val (.int qq), .val (.int fl), .val (.int (2 : Int32)), .val (.int (1 : Int32)), .val (.int ((aa &&& (255 : Int32)).toUInt32.toUInt16.toUInt32.toInt32)), .val (.int ((((aa.toUInt32 >>> ((8 : Int32) &&& 31).toUInt32).toInt32) &&& (255 : Int32)).toUInt32.toUInt16.toUInt32.toInt32)), .val (.int ((aa &&& (255 : Int32)).toUInt32.toUInt16.toUInt32.toInt32)), .unset, .unset, .unset, .unset, .unset, .unset, .unset, .unset, .unset] [(.int (255 : Int32)), (.int ((bb.toUInt32 >>> ((8 : Int32) &&& 31).toUInt32).toInt32))]))
          refine Done.step (fun _ => XS.iand X0.here hx rfl (hb hby at_80) rfl) ?_
          show Done _ p e below s _ _ (T0.setTop (mkF m 81 #[.val (.int aa), .val (.int bb), .val (.int pp), .val (.int qq), .val (.int fl), .val (.int (2 : Int32)), .val (.int (1 : Int32)), .val (.int ((aa &&& (255 : Int32)).toUInt32.toUInt16.toUInt32.toInt32)), .val (.int ((((aa.toUInt32 >>> ((8 : Int32) &&& 31).toUInt32).toInt32) &&& (255 : Int32)).toUInt32.toUInt16.toUInt32.toInt32)), .val (.int ((aa &&& (255 : Int32)).toUInt32.toUInt16.toUInt32.toInt32)), .unset, .unset, .unset, .unset, .unset, .unset, .unset, .unset, .unset] [(.int (((bb.toUInt32 >>> ((8 : Int32) &&& 31).toUInt32).toInt32) &&& (255 : Int32)))]))
          refine Done.step (fun _ => XT.i2c X0.here hx rfl (hb hby at_81) rfl) ?_
          show Done _ p e below s _ _ (T0.setTop (mkF m 82 #[.val (.int aa), .val (.int bb), .val (.int pp), .val (.int qq), .val (.int fl), .val (.int (2 : Int32)), .val (.int (1 : Int32)), .val (.int ((aa &&& (255 : Int32)).toUInt32.toUInt16.toUInt32.toInt32)), .val (.int ((((aa.toUInt32 >>> ((8 : Int32) &&& 31).toUInt32).toInt32) &&& (255 : Int32)).toUInt32.toUInt16.toUInt32.toInt32)), .val (.int ((aa &&& (255 : Int32)).toUInt32.toUInt16.toUInt32.toInt32)), .unset, .unset, .unset, .unset, .unset, .unset, .unset, .unset, .unset] [(.int ((((bb.toUInt32 >>> ((8 : Int32) &&& 31).toUInt32).toInt32) &&& (255 : Int32)).toUInt32.toUInt16.toUInt32.toInt32))]))
          refine Done.step (fun _ => XS.istore X0.here hx rfl (hb hby at_82) rfl (l' := #[.val (.int aa), .val (.int bb), .val (.int pp), .val (.int qq), .val (.int fl), .val (.int (2 : Int32)), .val (.int (1 : Int32)), .val (.int ((aa &&& (255 : Int32)).toUInt32.toUInt16.toUInt32.toInt32)), .val (.int ((((aa.toUInt32 >>> ((8 : Int32) &&& 31).toUInt32).toInt32) &&& (255 : Int32)).toUInt32.toUInt16.toUInt32.toInt32)), .val (.int ((aa &&& (255 : Int32)).toUInt32.toUInt16.toUInt32.toInt32)), .val (.int ((((bb.toUInt32 >>> ((8 : Int32) &&& 31).toUInt32).toInt32) &&& (255 : Int32)).toUInt32.toUInt16.toUInt32.toInt32)), .unset, .unset, .unset, .unset, .unset, .unset, .unset, .unset]) rfl) ?_
          show Done _ p e below s _ _ (T0.setTop (mkF m 84 #[.val (.int aa), .val (.int bb), .val (.int pp), .val (.int qq), .val (.int fl), .val (.int (2 : Int32)), .val (.int (1 : Int32)), .val (.int ((aa &&& (255 : Int32)).toUInt32.toUInt16.toUInt32.toInt32)), .val (.int ((((aa.toUInt32 >>> ((8 : Int32) &&& 31).toUInt32).toInt32) &&& (255 : Int32)).toUInt32.toUInt16.toUInt32.toInt32)), .val (.int ((aa &&& (255 : Int32)).toUInt32.toUInt16.toUInt32.toInt32)), .val (.int ((((bb.toUInt32 >>> ((8 : Int32) &&& 31).toUInt32).toInt32) &&& (255 : Int32)).toUInt32.toUInt16.toUInt32.toInt32)), .unset, .unset, .unset, .unset, .unset, .unset, .unset, .unset] []))
          exact K84 ((aa &&& (255 : Int32)).toUInt32.toUInt16.toUInt32.toInt32) ((((aa.toUInt32 >>> ((8 : Int32) &&& 31).toUInt32).toInt32) &&& (255 : Int32)).toUInt32.toUInt16.toUInt32.toInt32) ((aa &&& (255 : Int32)).toUInt32.toUInt16.toUInt32.toInt32) ((((bb.toUInt32 >>> ((8 : Int32) &&& 31).toUInt32).toInt32) &&& (255 : Int32)).toUInt32.toUInt16.toUInt32.toInt32) (own_ch _) (own_ch _) (own_ch _) (own_ch _)
        · refine Done.step (fun _ => XS.ifNo X0.here hx rfl (hb hby at_65) rfl (XT.i0_eq_f hc217)) ?_
          show Done _ p e below s _ _ (T0.setTop (mkF m 68 #[.val (.int aa), .val (.int bb), .val (.int pp), .val (.int qq), .val (.int fl), .val (.int (2 : Int32)), .val (.int (1 : Int32)), .val (.int ((aa &&& (255 : Int32)).toUInt32.toUInt16.toUInt32.toInt32)), .val (.int ((((aa.toUInt32 >>> ((8 : Int32) &&& 31).toUInt32).toInt32) &&& (255 : Int32)).toUInt32.toUInt16.toUInt32.toInt32)), .val (.int ((aa &&& (255 : Int32)).toUInt32.toUInt16.toUInt32.toInt32)), .unset, .unset, .unset, .unset, .unset, .unset, .unset, .unset, .unset] []))
          refine Done.step (fun _ => XS.iload X0.here hx rfl (hb hby at_68) rfl) ?_
          show Done _ p e below s _ _ (T0.setTop (mkF m 70 #[.val (.int aa), .val (.int bb), .val (.int pp), .val (.int qq), .val (.int fl), .val (.int (2 : Int32)), .val (.int (1 : Int32)), .val (.int ((aa &&& (255 : Int32)).toUInt32.toUInt16.toUInt32.toInt32)), .val (.int ((((aa.toUInt32 >>> ((8 : Int32) &&& 31).toUInt32).toInt32) &&& (255 : Int32)).toUInt32.toUInt16.toUInt32.toInt32)), .val (.int ((aa &&& (255 : Int32)).toUInt32.toUInt16.toUInt32.toInt32)), .unset, .unset, .unset, .unset, .unset, .unset, .unset, .unset, .unset] [(.int ((((aa.toUInt32 >>> ((8 : Int32) &&& 31).toUInt32).toInt32) &&& (255 : Int32)).toUInt32.toUInt16.toUInt32.toInt32))]))
          refine Done.step (fun _ => XS.goto X0.here hx rfl (pc0 := 70) (pc' := 82) rfl (hb hby at_70) (by decide) (by decide)) ?_
          show Done _ p e below s _ _ (T0.setTop (mkF m 82 #[.val (.int aa), .val (.int bb), .val (.int pp), .val (.int qq), .val (.int fl), .val (.int (2 : Int32)), .val (.int (1 : Int32)), .val (.int ((aa &&& (255 : Int32)).toUInt32.toUInt16.toUInt32.toInt32)), .val (.int ((((aa.toUInt32 >>> ((8 : Int32) &&& 31).toUInt32).toInt32) &&& (255 : Int32)).toUInt32.toUInt16.toUInt32.toInt32)), .val (.int ((aa &&& (255 : Int32)).toUInt32.toUInt16.toUInt32.toInt32)), .unset, .unset, .unset, .unset, .unset, .unset, .unset, .unset, .unset] [(.int ((((aa.toUInt32 >>> ((8 : Int32) &&& 31).toUInt32).toInt32) &&& (255 : Int32)).toUInt32.toUInt16.toUInt32.toInt32))]))
          refine Done.step (fun _ => XS.istore X0.here hx rfl (hb hby at_82) rfl (l' := #[.val (.int aa), .val (.int bb), .val (.int pp), .val (.int qq), .val (.int fl), .val (.int (2 : Int32)), .val (.int (1 : Int32)), .val (.int ((aa &&& (255 : Int32)).toUInt32.toUInt16.toUInt32.toInt32)), .val (.int ((((aa.toUInt32 >>> ((8 : Int32) &&& 31).toUInt32).toInt32) &&& (255 : Int32)).toUInt32.toUInt16.toUInt32.toInt32)), .val (.int ((aa &&& (255 : Int32)).toUInt32.toUInt16.toUInt32.toInt32)), .val (.int ((((aa.toUInt32 >>> ((8 : Int32) &&& 31).toUInt32).toInt32) &&& (255 : Int32)).toUInt32.toUInt16.toUInt32.toInt32)), .unset, .unset, .unset, .unset, .unset, .unset, .unset, .unset]) rfl) ?_
          show Done _ p e below s _ _ (T0.setTop (mkF m 84 #[.val (.int aa), .val (.int bb), .val (.int pp), .val (.int qq), .val (.int fl), .val (.int (2 : Int32)), .val (.int (1 : Int32)), .val (.int ((aa &&& (255 : Int32)).toUInt32.toUInt16.toUInt32.toInt32)), .val (.int ((((aa.toUInt32 >>> ((8 : Int32) &&& 31).toUInt32).toInt32) &&& (255 : Int32)).toUInt32.toUInt16.toUInt32.toInt32)), .val (.int ((aa &&& (255 : Int32)).toUInt32.toUInt16.toUInt32.toInt32)), .val (.int ((((aa.toUInt32 >>> ((8 : Int32) &&& 31).toUInt32).toInt32) &&& (255 : Int32)).toUInt32.toUInt16.toUInt32.toInt32)), .unset, .unset, .unset, .unset, .unset, .unset, .unset, .unset] []))
          exact K84 ((aa &&& (255 : Int32)).toUInt32.toUInt16.toUInt32.toInt32) ((((aa.toUInt32 >>> ((8 : Int32) &&& 31).toUInt32).toInt32) &&& (255 : Int32)).toUInt32.toUInt16.toUInt32.toInt32) ((aa &&& (255 : Int32)).toUInt32.toUInt16.toUInt32.toInt32) ((((aa.toUInt32 >>> ((8 : Int32) &&& 31).toUInt32).toInt32) &&& (255 : Int32)).toUInt32.toUInt16.toUInt32.toInt32) (own_ch _) (own_ch _) (own_ch _) (own_ch _)
    · rw [hv]
      show Done _ p e below s _ _ (T0.setTop (mkF m 18 #[.val (.int aa), .val (.int bb), .val (.int pp), .val (.int qq), .val (.int fl), .val (.int (2 : Int32)), .val (.int (2 : Int32)), .unset, .unset, .unset, .unset, .unset, .unset, .unset, .unset, .unset, .unset, .unset, .unset] []))
      refine Done.step (fun _ => XS.iloadN X0.here hx rfl (hb hby at_18) rfl) ?_
      show Done _ p e below s _ _ (T0.setTop (mkF m 19 #[.val (.int aa), .val (.int bb), .val (.int pp), .val (.int qq), .val (.int fl), .val (.int (2 : Int32)), .val (.int (2 : Int32)), .unset, .unset, .unset, .unset, .unset, .unset, .unset, .unset, .unset, .unset, .unset, .unset] [(.int aa)]))
      refine Done.step (fun _ => XT.sipushV X0.here hx rfl (255 : Int32) (hb hby at_19) (by decide)) ?_
      show Done _ p e below s _ _ (T0.setTop (mkF m 22 #[.val (.int aa), .val (.int bb), .val (.int pp), .val (.int qq), .val (.int fl), .val (.int (2 : Int32)), .val (.int (2 : Int32)), .unset, .unset, .unset, .unset, .unset, .unset, .unset, .unset, .unset, .unset, .unset, .unset] [(.int (255 : Int32)), (.int aa)]))
      refine Done.step (fun _ => XS.iand X0.here hx rfl (hb hby at_22) rfl) ?_
      show Done _ p e below s _ _ (T0.setTop (mkF m 23 #[.val (.int aa), .val (.int bb), .val (.int pp), .val (.int qq), .val (.int fl), .val (.int (2 : Int32)), .val (.int (2 : Int32)), .unset, .unset, .unset, .unset, .unset, .unset, .unset, .unset, .unset, .unset, .unset, .unset] [(.int (aa &&& (255 : Int32)))]))
      refine Done.step (fun _ => XT.i2c X0.here hx rfl (hb hby at_23) rfl) ?_
      show Done _ p e below s _ _ (T0.setTop (mkF m 24 #[.val (.int aa), .val (.int bb), .val (.int pp), .val (.int qq), .val (.int fl), .val (.int (2 : Int32)), .val (.int (2 : Int32)), .unset, .unset, .unset, .unset, .unset, .unset, .unset, .unset, .unset, .unset, .unset, .unset] [(.int ((aa &&& (255 : Int32)).toUInt32.toUInt16.toUInt32.toInt32))]))
      refine Done.step (fun _ => XS.istore X0.here hx rfl (hb hby at_24) rfl (l' := #[.val (.int aa), .val (.int bb), .val (.int pp), .val (.int qq), .val (.int fl), .val (.int (2 : Int32)), .val (.int (2 : Int32)), .val (.int ((aa &&& (255 : Int32)).toUInt32.toUInt16.toUInt32.toInt32)), .unset, .unset, .unset, .unset, .unset, .unset, .unset, .unset, .unset, .unset, .unset]) rfl) ?_
      show Done _ p e below s _ _ (T0.setTop (mkF m 26 #[.val (.int aa), .val (.int bb), .val (.int pp), .val (.int qq), .val (.int fl), .val (.int (2 : Int32)), .val (.int (2 : Int32)), .val (.int ((aa &&& (255 : Int32)).toUInt32.toUInt16.toUInt32.toInt32)), .unset, .unset, .unset, .unset, .unset, .unset, .unset, .unset, .unset, .unset, .unset] []))
      refine Done.step (fun _ => XS.iloadN X0.here hx rfl (hb hby at_26) rfl) ?_
      show Done _ p e below s _ _ (T0.setTop (mkF m 27 #[.val (.int aa), .val (.int bb), .val (.int pp), .val (.int qq), .val (.int fl), .val (.int (2 : Int32)), .val (.int (2 : Int32)), .val (.int ((aa &&& (255 : Int32)).toUInt32.toUInt16.toUInt32.toInt32)), .unset, .unset, .unset, .unset, .unset, .unset, .unset, .unset, .unset, .unset, .unset] [(.int aa)]))
      refine Done.step (fun _ => XT.bipushV X0.here hx rfl (8 : Int32) (hb hby at_27) (by decide)) ?_
      show Done _ p e below s _ _ (T0.setTop (mkF m 29 #[.val (.int aa), .val (.int bb), .val (.int pp), .val (.int qq), .val (.int fl), .val (.int (2 : Int32)), .val (.int (2 : Int32)), .val (.int ((aa &&& (255 : Int32)).toUInt32.toUInt16.toUInt32.toInt32)), .unset, .unset, .unset, .unset, .unset, .unset, .unset, .unset, .unset, .unset, .unset] [(.int (8 : Int32)), (.int aa)]))
      refine Done.step (fun _ => XT.iushr X0.here hx rfl (hb hby at_29) rfl) ?_
      show Done _ p e below s _ _ (T0.setTop (mkF m 30 #[.val (.int aa), .val (.int bb), .val (.int pp), .val (.int qq), .val (.int fl), .val (.int (2 : Int32)), .val (.int (2 : Int32)), .val (.int ((aa &&& (255 : Int32)).toUInt32.toUInt16.toUInt32.toInt32)), .unset, .unset, .unset, .unset, .unset, .unset, .unset, .unset, .unset, .unset, .unset] [(.int ((aa.toUInt32 >>> ((8 : Int32) &&& 31).toUInt32).toInt32))]))
      refine Done.step (fun _ => XT.sipushV X0.here hx rfl (255 : Int32) (hb hby at_30) (by decide)) ?_
      show Done _ p e below s _ _ (T0.setTop (mkF m 33 #[.val (.int aa), .val (.int bb), .val (.int pp), .val (.int qq), .val (.int fl), .val (.int (2 : Int32)), .val (.int (2 : Int32)), .val (.int ((aa &&& (255 : Int32)).toUInt32.toUInt16.toUInt32.toInt32)), .unset, .unset, .unset, .unset, .unset, .unset, .unset, .unset, .unset, .unset, .unset] [(.int (255 : Int32)), (.int ((aa.toUInt32 >>> ((8 : Int32) &&& 31).toUInt32).toInt32))]))
      refine Done.step (fun _ => XS.iand X0.here hx rfl (hb hby at_33) rfl) ?_
      show Done _ p e below s _ _ (T0.setTop (mkF m 34 #[.val (.int aa), .val (.int bb), .val (.int pp), .val (.int qq), .val (.int fl), .val (.int (2 : Int32)), .val (.int (2 : Int32)), .val (.int ((aa &&& (255 : Int32)).toUInt32.toUInt16.toUInt32.toInt32)), .unset, .unset, .unset, .unset, .unset, .unset, .unset, .unset, .unset, .unset, .unset] [(.int (((aa.toUInt32 >>> ((8 : Int32) &&& 31).toUInt32).toInt32) &&& (255 : Int32)))]))
      refine Done.step (fun _ => XT.i2c X0.here hx rfl (hb hby at_34) rfl) ?_
      show Done _ p e below s _ _ (T0.setTop (mkF m 35 #[.val (.int aa), .val (.int bb), .val (.int pp), .val (.int qq), .val (.int fl), .val (.int (2 : Int32)), .val (.int (2 : Int32)), .val (.int ((aa &&& (255 : Int32)).toUInt32.toUInt16.toUInt32.toInt32)), .unset, .unset, .unset, .unset, .unset, .unset, .unset, .unset, .unset, .unset, .unset] [(.int ((((aa.toUInt32 >>> ((8 : Int32) &&& 31).toUInt32).toInt32) &&& (255 : Int32)).toUInt32.toUInt16.toUInt32.toInt32))]))
      refine Done.step (fun _ => XS.istore X0.here hx rfl (hb hby at_35) rfl (l' := #[.val (.int aa), .val (.int bb), .val (.int pp), .val (.int qq), .val (.int fl), .val (.int (2 : Int32)), .val (.int (2 : Int32)), .val (.int ((aa &&& (255 : Int32)).toUInt32.toUInt16.toUInt32.toInt32)), .val (.int ((((aa.toUInt32 >>> ((8 : Int32) &&& 31).toUInt32).toInt32) &&& (255 : Int32)).toUInt32.toUInt16.toUInt32.toInt32)), .unset, .unset, .unset, .unset, .unset, .unset, .unset, .unset, .unset, .unset]) rfl) ?_
      show Done _ p e below s _ _ (T0.setTop (mkF m 37 #[.val (.int aa), .val (.int bb), .val (.int pp), .val (.int qq), .val (.int fl), .val (.int (2 : Int32)), .val (.int (2 : Int32)), .val (.int ((aa &&& (255 : Int32)).toUInt32.toUInt16.toUInt32.toInt32)), .val (.int ((((aa.toUInt32 >>> ((8 : Int32) &&& 31).toUInt32).toInt32) &&& (255 : Int32)).toUInt32.toUInt16.toUInt32.toInt32)), .unset, .unset, .unset, .unset, .unset, .unset, .unset, .unset, .unset, .unset] []))
      have K84 : ∀ (c0 c1 d0 d1 : Int32) (bc0 : ¬ c0 < 0 ∧ ¬ (255 : Int32) < c0) (bc1 : ¬ c1 < 0 ∧ ¬ (255 : Int32) < c1) (bd0 : ¬ d0 < 0 ∧ ¬ (255 : Int32) < d0) (bd1 : ¬ d1 < 0 ∧ ¬ (255 : Int32) < d1), Done FrameEnd p e below s room_1 (LawQ n0) (T0.setTop (mkF m 84 #[.val (.int aa), .val (.int bb), .val (.int pp), .val (.int qq), .val (.int fl), .val (.int (2 : Int32)), .val (.int (2 : Int32)), .val (.int c0), .val (.int c1), .val (.int d0), .val (.int d1), .unset, .unset, .unset, .unset, .unset, .unset, .unset, .unset] [])) := by
        intro c0 c1 d0 d1 bc0 bc1 bd0 bd1
        show Done _ p e below s _ _ (T0.setTop (mkF m 84 #[.val (.int aa), .val (.int bb), .val (.int pp), .val (.int qq), .val (.int fl), .val (.int (2 : Int32)), .val (.int (2 : Int32)), .val (.int c0), .val (.int c1), .val (.int d0), .val (.int d1), .unset, .unset, .unset, .unset, .unset, .unset, .unset, .unset] []))
        refine Done.step (fun _ => XS.iload X0.here hx rfl (hb hby at_84) rfl) ?_
        show Done _ p e below s _ _ (T0.setTop (mkF m 86 #[.val (.int aa), .val (.int bb), .val (.int pp), .val (.int qq), .val (.int fl), .val (.int (2 : Int32)), .val (.int (2 : Int32)), .val (.int c0), .val (.int c1), .val (.int d0), .val (.int d1), .unset, .unset, .unset, .unset, .unset, .unset, .unset, .unset] [(.int (2 : Int32))]))
        obtain ⟨T218, h218, k218, X218, e218, E218, A218, st218⟩ := newP X0 hx hZ (wAt hw 0 rfl) e0 (g := (mkF m 86 #[.val (.int aa), .val (.int bb), .val (.int pp), .val (.int qq), .val (.int fl), .val (.int (2 : Int32)), .val (.int (2 : Int32)), .val (.int c0), .val (.int c1), .val (.int d0), .val (.int d1), .unset, .unset, .unset, .unset, .unset, .unset, .unset, .unset] [(.int (2 : Int32))])) rfl (hb hby at_86) rfl (by decide) (cap := 2) (by decide) (by decide) (by decide) (by decide)
        obtain ⟨b218, g218⟩ : ∃ z, z = h0.size := ⟨_, rfl⟩
        rw [← g218] at A218 st218
        have n0_b218 : n0 ≤ b218 := by rw [g218]; exact Z0
        have Zs218 := Nat.le_trans Z0 E218.1
        have V_b218 : Arv Z h218 b218 k218 .char (2 : Int32) [(.int (0 : Int32)), (.int (0 : Int32))] (.int (0 : Int32)) := (Arv.new A218 (by decide)).pad (pad_rep [] (.int (0 : Int32)) 2)
        refine Done.step st218 ?_
        show Done _ p e below s _ _ (T218.setTop (mkF m 88 #[.val (.int aa), .val (.int bb), .val (.int pp), .val (.int qq), .val (.int fl), .val (.int (2 : Int32)), .val (.int (2 : Int32)), .val (.int c0), .val (.int c1), .val (.int d0), .val (.int d1), .unset, .unset, .unset, .unset, .unset, .unset, .unset, .unset] [(.ref b218)]))
        refine Done.step (fun _ => XS.astore X218.here hx rfl (hb hby at_88) rfl rfl (l' := #[.val (.int aa), .val (.int bb), .val (.int pp), .val (.int qq), .val (.int fl), .val (.int (2 : Int32)), .val (.int (2 : Int32)), .val (.int c0), .val (.int c1), .val (.int d0), .val (.int d1), .val (.ref b218), .unset, .unset, .unset, .unset, .unset, .unset, .unset]) rfl) ?_
        show Done _ p e below s _ _ (T218.setTop (mkF m 90 #[.val (.int aa), .val (.int bb), .val (.int pp), .val (.int qq), .val (.int fl), .val (.int (2 : Int32)), .val (.int (2 : Int32)), .val (.int c0), .val (.int c1), .val (.int d0), .val (.int d1), .val (.ref b218), .unset, .unset, .unset, .unset, .unset, .unset, .unset] []))
        refine Done.step (fun _ => XS.aload X218.here hx rfl (hb hby at_90) rfl rfl) ?_
        show Done _ p e below s _ _ (T218.setTop (mkF m 92 #[.val (.int aa), .val (.int bb), .val (.int pp), .val (.int qq), .val (.int fl), .val (.int (2 : Int32)), .val (.int (2 : Int32)), .val (.int c0), .val (.int c1), .val (.int d0), .val (.int d1), .val (.ref b218), .unset, .unset, .unset, .unset, .unset, .unset, .unset] [(.ref b218)]))
        refine Done.step (fun _ => XT.iconstV X218.here hx rfl (0 : Int32) (hb hby at_92) (by decide)) ?_
        show Done _ p e below s _ _ (T218.setTop (mkF m 93 #[.val (.int aa), .val (.int bb), .val (.int pp), .val (.int qq), .val (.int fl), .val (.int (2 : Int32)), .val (.int (2 : Int32)), .val (.int c0), .val (.int c1), .val (.int d0), .val (.int d1), .val (.ref b218), .unset, .unset, .unset, .unset, .unset, .unset, .unset] [(.int (0 : Int32)), (.ref b218)]))
        refine Done.step (fun _ => XS.iload X218.here hx rfl (hb hby at_93) rfl) ?_
        show Done _ p e below s _ _ (T218.setTop (mkF m 95 #[.val (.int aa), .val (.int bb), .val (.int pp), .val (.int qq), .val (.int fl), .val (.int (2 : Int32)), .val (.int (2 : Int32)), .val (.int c0), .val (.int c1), .val (.int d0), .val (.int d1), .val (.ref b218), .unset, .unset, .unset, .unset, .unset, .unset, .unset] [(.int c0), (.int (0 : Int32)), (.ref b218)]))
        obtain ⟨cl219, Ar219, q219, S219, Nn219, H219, G219⟩ := V_b218
        have hin219 : ¬ ((0 : Int32) < 0 ∨ cl219.slots.size ≤ ((0 : Int32)).toNatClampNeg) := inb_of S219 ⟨by decide, by decide⟩
        obtain ⟨T219, h219, X219, e219, W219, st219⟩ := stC X218 hx hZ e218 Ar219 (j := (0 : Int32)) hin219 (g := (mkF m 95 #[.val (.int aa), .val (.int bb), .val (.int pp), .val (.int qq), .val (.int fl), .val (.int (2 : Int32)), .val (.int (2 : Int32)), .val (.int c0), .val (.int c1), .val (.int d0), .val (.int d1), .val (.ref b218), .unset, .unset, .unset, .unset, .unset, .unset, .unset] [(.int c0), (.int (0 : Int32)), (.ref b218)])) rfl rfl (hb hby at_95)
        have V219 := Arv.set Ar219 q219 S219 Nn219 H219 G219 (fits_nar_char _) W219 0 rfl (Nat.le_of_ble_eq_true rfl)
        have N219 := Fr.snoc X219 N0 n0_b218
        have Zs219 := Nat.le_trans Zs218 (Keep.of_wr W219).1
        refine Done.step st219 ?_
        show Done _ p e below s _ _ (T219.setTop (mkF m 96 #[.val (.int aa), .val (.int bb), .val (.int pp), .val (.int qq), .val (.int fl), .val (.int (2 : Int32)), .val (.int (2 : Int32)), .val (.int c0), .val (.int c1), .val (.int d0), .val (.int d1), .val (.ref b218), .unset, .unset, .unset, .unset, .unset, .unset, .unset] []))
        refine Done.step (fun _ => XS.iload X219.here hx rfl (hb hby at_96) rfl) ?_
        show Done _ p e below s _ _ (T219.setTop (mkF m 98 #[.val (.int aa), .val (.int bb), .val (.int pp), .val (.int qq), .val (.int fl), .val (.int (2 : Int32)), .val (.int (2 : Int32)), .val (.int c0), .val (.int c1), .val (.int d0), .val (.int d1), .val (.ref b218), .unset, .unset, .unset, .unset, .unset, .unset, .unset] [(.int (2 : Int32))]))
        refine Done.step (fun _ => XT.iconstV X219.here hx rfl (2 : Int32) (hb hby at_98) (by decide)) ?_
        show Done _ p e below s _ _ (T219.setTop (mkF m 99 #[.val (.int aa), .val (.int bb), .val (.int pp), .val (.int qq), .val (.int fl), .val (.int (2 : Int32)), .val (.int (2 : Int32)), .val (.int c0), .val (.int c1), .val (.int d0), .val (.int d1), .val (.ref b218), .unset, .unset, .unset, .unset, .unset, .unset, .unset] [(.int (2 : Int32)), (.int (2 : Int32))]))
        refine Done.step (fun _ => XS.icmpNo X219.here hx rfl (hb hby at_99) rfl (XT.ii_ne_f rfl)) ?_
        show Done _ p e below s _ _ (T219.setTop (mkF m 102 #[.val (.int aa), .val (.int bb), .val (.int pp), .val (.int qq), .val (.int fl), .val (.int (2 : Int32)), .val (.int (2 : Int32)), .val (.int c0), .val (.int c1), .val (.int d0), .val (.int d1), .val (.ref b218), .unset, .unset, .unset, .unset, .unset, .unset, .unset] []))
        refine Done.step (fun _ => XS.aload X219.here hx rfl (hb hby at_102) rfl rfl) ?_
        show Done _ p e below s _ _ (T219.setTop (mkF m 104 #[.val (.int aa), .val (.int bb), .val (.int pp), .val (.int qq), .val (.int fl), .val (.int (2 : Int32)), .val (.int (2 : Int32)), .val (.int c0), .val (.int c1), .val (.int d0), .val (.int d1), .val (.ref b218), .unset, .unset, .unset, .unset, .unset, .unset, .unset] [(.ref b218)]))
        refine Done.step (fun _ => XT.iconstV X219.here hx rfl (1 : Int32) (hb hby at_104) (by decide)) ?_
        show Done _ p e below s _ _ (T219.setTop (mkF m 105 #[.val (.int aa), .val (.int bb), .val (.int pp), .val (.int qq), .val (.int fl), .val (.int (2 : Int32)), .val (.int (2 : Int32)), .val (.int c0), .val (.int c1), .val (.int d0), .val (.int d1), .val (.ref b218), .unset, .unset, .unset, .unset, .unset, .unset, .unset] [(.int (1 : Int32)), (.ref b218)]))
        refine Done.step (fun _ => XS.iload X219.here hx rfl (hb hby at_105) rfl) ?_
        show Done _ p e below s _ _ (T219.setTop (mkF m 107 #[.val (.int aa), .val (.int bb), .val (.int pp), .val (.int qq), .val (.int fl), .val (.int (2 : Int32)), .val (.int (2 : Int32)), .val (.int c0), .val (.int c1), .val (.int d0), .val (.int d1), .val (.ref b218), .unset, .unset, .unset, .unset, .unset, .unset, .unset] [(.int c1), (.int (1 : Int32)), (.ref b218)]))
        obtain ⟨cl220, Ar220, q220, S220, Nn220, H220, G220⟩ := V219
        have hin220 : ¬ ((1 : Int32) < 0 ∨ cl220.slots.size ≤ ((1 : Int32)).toNatClampNeg) := inb_of S220 ⟨by decide, by decide⟩
        obtain ⟨T220, h220, X220, e220, W220, st220⟩ := stC X219 hx hZ e219 Ar220 (j := (1 : Int32)) hin220 (g := (mkF m 107 #[.val (.int aa), .val (.int bb), .val (.int pp), .val (.int qq), .val (.int fl), .val (.int (2 : Int32)), .val (.int (2 : Int32)), .val (.int c0), .val (.int c1), .val (.int d0), .val (.int d1), .val (.ref b218), .unset, .unset, .unset, .unset, .unset, .unset, .unset] [(.int c1), (.int (1 : Int32)), (.ref b218)])) rfl rfl (hb hby at_107)
        have V220 := Arv.set Ar220 q220 S220 Nn220 H220 G220 (fits_nar_char _) W220 1 rfl (Nat.le_of_ble_eq_true rfl)
        have N220 := Fr.snoc X220 N219 n0_b218
        have Zs220 := Nat.le_trans Zs219 (Keep.of_wr W220).1
        refine Done.step st220 ?_
        show Done _ p e below s _ _ (T220.setTop (mkF m 108 #[.val (.int aa), .val (.int bb), .val (.int pp), .val (.int qq), .val (.int fl), .val (.int (2 : Int32)), .val (.int (2 : Int32)), .val (.int c0), .val (.int c1), .val (.int d0), .val (.int d1), .val (.ref b218), .unset, .unset, .unset, .unset, .unset, .unset, .unset] []))
        refine Done.step (fun _ => XS.iload X220.here hx rfl (hb hby at_108) rfl) ?_
        show Done _ p e below s _ _ (T220.setTop (mkF m 110 #[.val (.int aa), .val (.int bb), .val (.int pp), .val (.int qq), .val (.int fl), .val (.int (2 : Int32)), .val (.int (2 : Int32)), .val (.int c0), .val (.int c1), .val (.int d0), .val (.int d1), .val (.ref b218), .unset, .unset, .unset, .unset, .unset, .unset, .unset] [(.int (2 : Int32))]))
        obtain ⟨T221, h221, k221, X221, e221, E221, A221, st221⟩ := newP X220 hx hZ (wAt hw 0 rfl) e220 (g := (mkF m 110 #[.val (.int aa), .val (.int bb), .val (.int pp), .val (.int qq), .val (.int fl), .val (.int (2 : Int32)), .val (.int (2 : Int32)), .val (.int c0), .val (.int c1), .val (.int d0), .val (.int d1), .val (.ref b218), .unset, .unset, .unset, .unset, .unset, .unset, .unset] [(.int (2 : Int32))])) rfl (hb hby at_110) rfl (by decide) (cap := 2) (by decide) (by decide) (by decide) (by decide)
        obtain ⟨b221, g221⟩ : ∃ z, z = h220.size := ⟨_, rfl⟩
        rw [← g221] at A221 st221
        have ne_b218_b221 : b218 ≠ b221 := by rw [g221]; exact Nat.ne_of_lt V220.lt
        have n0_b221 : n0 ≤ b221 := by rw [g221]; exact Zs220
        have Zs221 := Nat.le_trans Zs220 E221.1
        have V_b221 : Arv Z h221 b221 k221 .char (2 : Int32) [(.int (0 : Int32)), (.int (0 : Int32))] (.int (0 : Int32)) := (Arv.new A221 (by decide)).pad (pad_rep [] (.int (0 : Int32)) 2)
        refine Done.step st221 ?_
        show Done _ p e below s _ _ (T221.setTop (mkF m 112 #[.val (.int aa), .val (.int bb), .val (.int pp), .val (.int qq), .val (.int fl), .val (.int (2 : Int32)), .val (.int (2 : Int32)), .val (.int c0), .val (.int c1), .val (.int d0), .val (.int d1), .val (.ref b218), .unset, .unset, .unset, .unset, .unset, .unset, .unset] [(.ref b221)]))
        refine Done.step (fun _ => XS.astore X221.here hx rfl (hb hby at_112) rfl rfl (l' := #[.val (.int aa), .val (.int bb), .val (.int pp), .val (.int qq), .val (.int fl), .val (.int (2 : Int32)), .val (.int (2 : Int32)), .val (.int c0), .val (.int c1), .val (.int d0), .val (.int d1), .val (.ref b218), .val (.ref b221), .unset, .unset, .unset, .unset, .unset, .unset]) rfl) ?_
        show Done _ p e below s _ _ (T221.setTop (mkF m 114 #[.val (.int aa), .val (.int bb), .val (.int pp), .val (.int qq), .val (.int fl), .val (.int (2 : Int32)), .val (.int (2 : Int32)), .val (.int c0), .val (.int c1), .val (.int d0), .val (.int d1), .val (.ref b218), .val (.ref b221), .unset, .unset, .unset, .unset, .unset, .unset] []))
        refine Done.step (fun _ => XS.aload X221.here hx rfl (hb hby at_114) rfl rfl) ?_
        show Done _ p e below s _ _ (T221.setTop (mkF m 116 #[.val (.int aa), .val (.int bb), .val (.int pp), .val (.int qq), .val (.int fl), .val (.int (2 : Int32)), .val (.int (2 : Int32)), .val (.int c0), .val (.int c1), .val (.int d0), .val (.int d1), .val (.ref b218), .val (.ref b221), .unset, .unset, .unset, .unset, .unset, .unset] [(.ref b221)]))
        refine Done.step (fun _ => XT.iconstV X221.here hx rfl (0 : Int32) (hb hby at_116) (by decide)) ?_
        show Done _ p e below s _ _ (T221.setTop (mkF m 117 #[.val (.int aa), .val (.int bb), .val (.int pp), .val (.int qq), .val (.int fl), .val (.int (2 : Int32)), .val (.int (2 : Int32)), .val (.int c0), .val (.int c1), .val (.int d0), .val (.int d1), .val (.ref b218), .val (.ref b221), .unset, .unset, .unset, .unset, .unset, .unset] [(.int (0 : Int32)), (.ref b221)]))
        refine Done.step (fun _ => XS.iload X221.here hx rfl (hb hby at_117) rfl) ?_
        show Done _ p e below s _ _ (T221.setTop (mkF m 119 #[.val (.int aa), .val (.int bb), .val (.int pp), .val (.int qq), .val (.int fl), .val (.int (2 : Int32)), .val (.int (2 : Int32)), .val (.int c0), .val (.int c1), .val (.int d0), .val (.int d1), .val (.ref b218), .val (.ref b221), .unset, .unset, .unset, .unset, .unset, .unset] [(.int d0), (.int (0 : Int32)), (.ref b221)]))
        obtain ⟨cl222, Ar222, q222, S222, Nn222, H222, G222⟩ := V_b221
        have hin222 : ¬ ((0 : Int32) < 0 ∨ cl222.slots.size ≤ ((0 : Int32)).toNatClampNeg) := inb_of S222 ⟨by decide, by decide⟩
        obtain ⟨T222, h222, X222, e222, W222, st222⟩ := stC X221 hx hZ e221 Ar222 (j := (0 : Int32)) hin222 (g := (mkF m 119 #[.val (.int aa), .val (.int bb), .val (.int pp), .val (.int qq), .val (.int fl), .val (.int (2 : Int32)), .val (.int (2 : Int32)), .val (.int c0), .val (.int c1), .val (.int d0), .val (.int d1), .val (.ref b218), .val (.ref b221), .unset, .unset, .unset, .unset, .unset, .unset] [(.int d0), (.int (0 : Int32)), (.ref b221)])) rfl rfl (hb hby at_119)
        have V222 := Arv.set Ar222 q222 S222 Nn222 H222 G222 (fits_nar_char _) W222 0 rfl (Nat.le_of_ble_eq_true rfl)
        have N222 := Fr.snoc X222 N220 n0_b221
        have Zs222 := Nat.le_trans Zs221 (Keep.of_wr W222).1
        refine Done.step st222 ?_
        show Done _ p e below s _ _ (T222.setTop (mkF m 120 #[.val (.int aa), .val (.int bb), .val (.int pp), .val (.int qq), .val (.int fl), .val (.int (2 : Int32)), .val (.int (2 : Int32)), .val (.int c0), .val (.int c1), .val (.int d0), .val (.int d1), .val (.ref b218), .val (.ref b221), .unset, .unset, .unset, .unset, .unset, .unset] []))
        refine Done.step (fun _ => XS.iload X222.here hx rfl (hb hby at_120) rfl) ?_
        show Done _ p e below s _ _ (T222.setTop (mkF m 122 #[.val (.int aa), .val (.int bb), .val (.int pp), .val (.int qq), .val (.int fl), .val (.int (2 : Int32)), .val (.int (2 : Int32)), .val (.int c0), .val (.int c1), .val (.int d0), .val (.int d1), .val (.ref b218), .val (.ref b221), .unset, .unset, .unset, .unset, .unset, .unset] [(.int (2 : Int32))]))
        refine Done.step (fun _ => XT.iconstV X222.here hx rfl (2 : Int32) (hb hby at_122) (by decide)) ?_
        show Done _ p e below s _ _ (T222.setTop (mkF m 123 #[.val (.int aa), .val (.int bb), .val (.int pp), .val (.int qq), .val (.int fl), .val (.int (2 : Int32)), .val (.int (2 : Int32)), .val (.int c0), .val (.int c1), .val (.int d0), .val (.int d1), .val (.ref b218), .val (.ref b221), .unset, .unset, .unset, .unset, .unset, .unset] [(.int (2 : Int32)), (.int (2 : Int32))]))
        refine Done.step (fun _ => XS.icmpNo X222.here hx rfl (hb hby at_123) rfl (XT.ii_ne_f rfl)) ?_
        show Done _ p e below s _ _ (T222.setTop (mkF m 126 #[.val (.int aa), .val (.int bb), .val (.int pp), .val (.int qq), .val (.int fl), .val (.int (2 : Int32)), .val (.int (2 : Int32)), .val (.int c0), .val (.int c1), .val (.int d0), .val (.int d1), .val (.ref b218), .val (.ref b221), .unset, .unset, .unset, .unset, .unset, .unset] []))
        refine Done.step (fun _ => XS.aload X222.here hx rfl (hb hby at_126) rfl rfl) ?_
        show Done _ p e below s _ _ (T222.setTop (mkF m 128 #[.val (.int aa), .val (.int bb), .val (.int pp), .val (.int qq), .val (.int fl), .val (.int (2 : Int32)), .val (.int (2 : Int32)), .val (.int c0), .val (.int c1), .val (.int d0), .val (.int d1), .val (.ref b218), .val (.ref b221), .unset, .unset, .unset, .unset, .unset, .unset] [(.ref b221)]))
        refine Done.step (fun _ => XT.iconstV X222.here hx rfl (1 : Int32) (hb hby at_128) (by decide)) ?_
        show Done _ p e below s _ _ (T222.setTop (mkF m 129 #[.val (.int aa), .val (.int bb), .val (.int pp), .val (.int qq), .val (.int fl), .val (.int (2 : Int32)), .val (.int (2 : Int32)), .val (.int c0), .val (.int c1), .val (.int d0), .val (.int d1), .val (.ref b218), .val (.ref b221), .unset, .unset, .unset, .unset, .unset, .unset] [(.int (1 : Int32)), (.ref b221)]))
        refine Done.step (fun _ => XS.iload X222.here hx rfl (hb hby at_129) rfl) ?_
        show Done _ p e below s _ _ (T222.setTop (mkF m 131 #[.val (.int aa), .val (.int bb), .val (.int pp), .val (.int qq), .val (.int fl), .val (.int (2 : Int32)), .val (.int (2 : Int32)), .val (.int c0), .val (.int c1), .val (.int d0), .val (.int d1), .val (.ref b218), .val (.ref b221), .unset, .unset, .unset, .unset, .unset, .unset] [(.int d1), (.int (1 : Int32)), (.ref b221)]))
        obtain ⟨cl223, Ar223, q223, S223, Nn223, H223, G223⟩ := V222
        have hin223 : ¬ ((1 : Int32) < 0 ∨ cl223.slots.size ≤ ((1 : Int32)).toNatClampNeg) := inb_of S223 ⟨by decide, by decide⟩
        obtain ⟨T223, h223, X223, e223, W223, st223⟩ := stC X222 hx hZ e222 Ar223 (j := (1 : Int32)) hin223 (g := (mkF m 131 #[.val (.int aa), .val (.int bb), .val (.int pp), .val (.int qq), .val (.int fl), .val (.int (2 : Int32)), .val (.int (2 : Int32)), .val (.int c0), .val (.int c1), .val (.int d0), .val (.int d1), .val (.ref b218), .val (.ref b221), .unset, .unset, .unset, .unset, .unset, .unset] [(.int d1), (.int (1 : Int32)), (.ref b221)])) rfl rfl (hb hby at_131)
        have V223 := Arv.set Ar223 q223 S223 Nn223 H223 G223 (fits_nar_char _) W223 1 rfl (Nat.le_of_ble_eq_true rfl)
        have N223 := Fr.snoc X223 N222 n0_b221
        have Zs223 := Nat.le_trans Zs222 (Keep.of_wr W223).1
        refine Done.step st223 ?_
        show Done _ p e below s _ _ (T223.setTop (mkF m 132 #[.val (.int aa), .val (.int bb), .val (.int pp), .val (.int qq), .val (.int fl), .val (.int (2 : Int32)), .val (.int (2 : Int32)), .val (.int c0), .val (.int c1), .val (.int d0), .val (.int d1), .val (.ref b218), .val (.ref b221), .unset, .unset, .unset, .unset, .unset, .unset] []))
        refine Done.step (fun _ => XS.iloadN X223.here hx rfl (hb hby at_132) rfl) ?_
        show Done _ p e below s _ _ (T223.setTop (mkF m 133 #[.val (.int aa), .val (.int bb), .val (.int pp), .val (.int qq), .val (.int fl), .val (.int (2 : Int32)), .val (.int (2 : Int32)), .val (.int c0), .val (.int c1), .val (.int d0), .val (.int d1), .val (.ref b218), .val (.ref b221), .unset, .unset, .unset, .unset, .unset, .unset] [(.int pp)]))
        refine Done.step (fun _ => Stand.ldcI X223 hx hown (mvT hZ (wAt hw 1 rfl)) (g := (mkF m 133 #[.val (.int aa), .val (.int bb), .val (.int pp), .val (.int qq), .val (.int fl), .val (.int (2 : Int32)), .val (.int (2 : Int32)), .val (.int c0), .val (.int c1), .val (.int d0), .val (.int d1), .val (.ref b218), .val (.ref b221), .unset, .unset, .unset, .unset, .unset, .unset] [(.int pp)])) rfl (hb hby at_133)) ?_
        show Done _ p e below s _ _ (T223.setTop (mkF m 135 #[.val (.int aa), .val (.int bb), .val (.int pp), .val (.int qq), .val (.int fl), .val (.int (2 : Int32)), .val (.int (2 : Int32)), .val (.int c0), .val (.int c1), .val (.int d0), .val (.int d1), .val (.ref b218), .val (.ref b221), .unset, .unset, .unset, .unset, .unset, .unset] [(.int (2147483647 : Int32)), (.int pp)]))
        refine Done.step (fun _ => XS.iand X223.here hx rfl (hb hby at_135) rfl) ?_
        show Done _ p e below s _ _ (T223.setTop (mkF m 136 #[.val (.int aa), .val (.int bb), .val (.int pp), .val (.int qq), .val (.int fl), .val (.int (2 : Int32)), .val (.int (2 : Int32)), .val (.int c0), .val (.int c1), .val (.int d0), .val (.int d1), .val (.ref b218), .val (.ref b221), .unset, .unset, .unset, .unset, .unset, .unset] [(.int (pp &&& (2147483647 : Int32)))]))
        refine Done.step (fun _ => Stand.ldcI X223 hx hown (mvT hZ (wAt hw 2 rfl)) (g := (mkF m 136 #[.val (.int aa), .val (.int bb), .val (.int pp), .val (.int qq), .val (.int fl), .val (.int (2 : Int32)), .val (.int (2 : Int32)), .val (.int c0), .val (.int c1), .val (.int d0), .val (.int d1), .val (.ref b218), .val (.ref b221), .unset, .unset, .unset, .unset, .unset, .unset] [(.int (pp &&& (2147483647 : Int32)))])) rfl (hb hby at_136)) ?_
        show Done _ p e below s _ _ (T223.setTop (mkF m 138 #[.val (.int aa), .val (.int bb), .val (.int pp), .val (.int qq), .val (.int fl), .val (.int (2 : Int32)), .val (.int (2 : Int32)), .val (.int c0), .val (.int c1), .val (.int d0), .val (.int d1), .val (.ref b218), .val (.ref b221), .unset, .unset, .unset, .unset, .unset, .unset] [(.int (65535 : Int32)), (.int (pp &&& (2147483647 : Int32)))]))
        refine Done.step (fun _ => iremM X223 hx rfl (hb hby at_138) rfl (by decide)) ?_
        show Done _ p e below s _ _ (T223.setTop (mkF m 139 #[.val (.int aa), .val (.int bb), .val (.int pp), .val (.int qq), .val (.int fl), .val (.int (2 : Int32)), .val (.int (2 : Int32)), .val (.int c0), .val (.int c1), .val (.int d0), .val (.int d1), .val (.ref b218), .val (.ref b221), .unset, .unset, .unset, .unset, .unset, .unset] [(.int ((pp &&& (2147483647 : Int32)) % (65535 : Int32)))]))
        refine Done.step (fun _ => XT.iconstV X223.here hx rfl (1 : Int32) (hb hby at_139) (by decide)) ?_
        show Done _ p e below s _ _ (T223.setTop (mkF m 140 #[.val (.int aa), .val (.int bb), .val (.int pp), .val (.int qq), .val (.int fl), .val (.int (2 : Int32)), .val (.int (2 : Int32)), .val (.int c0), .val (.int c1), .val (.int d0), .val (.int d1), .val (.ref b218), .val (.ref b221), .unset, .unset, .unset, .unset, .unset, .unset] [(.int (1 : Int32)), (.int ((pp &&& (2147483647 : Int32)) % (65535 : Int32)))]))
        refine Done.step (fun _ => XS.iadd X223.here hx rfl (hb hby at_140) rfl) ?_
        show Done _ p e below s _ _ (T223.setTop (mkF m 141 #[.val (.int aa), .val (.int bb), .val (.int pp), .val (.int qq), .val (.int fl), .val (.int (2 : Int32)), .val (.int (2 : Int32)), .val (.int c0), .val (.int c1), .val (.int d0), .val (.int d1), .val (.ref b218), .val (.ref b221), .unset, .unset, .unset, .unset, .unset, .unset] [(.int (((pp &&& (2147483647 : Int32)) % (65535 : Int32)) + (1 : Int32)))]))
        refine Done.step (fun _ => XS.istore X223.here hx rfl (hb hby at_141) rfl (l' := #[.val (.int aa), .val (.int bb), .val (.int pp), .val (.int qq), .val (.int fl), .val (.int (2 : Int32)), .val (.int (2 : Int32)), .val (.int c0), .val (.int c1), .val (.int d0), .val (.int d1), .val (.ref b218), .val (.ref b221), .val (.int (((pp &&& (2147483647 : Int32)) % (65535 : Int32)) + (1 : Int32))), .unset, .unset, .unset, .unset, .unset]) rfl) ?_
        show Done _ p e below s _ _ (T223.setTop (mkF m 143 #[.val (.int aa), .val (.int bb), .val (.int pp), .val (.int qq), .val (.int fl), .val (.int (2 : Int32)), .val (.int (2 : Int32)), .val (.int c0), .val (.int c1), .val (.int d0), .val (.int d1), .val (.ref b218), .val (.ref b221), .val (.int (((pp &&& (2147483647 : Int32)) % (65535 : Int32)) + (1 : Int32))), .unset, .unset, .unset, .unset, .unset] []))
        have hport1 := own_port pp
        have K168 : ∀ (q2 : Int32) (hq1 : ¬ q2 < (1 : Int32)) (hq2 : ¬ (65535 : Int32) < q2), Done FrameEnd p e below s room_1 (LawQ n0) (T223.setTop (mkF m 168 #[.val (.int aa), .val (.int bb), .val (.int pp), .val (.int qq), .val (.int fl), .val (.int (2 : Int32)), .val (.int (2 : Int32)), .val (.int c0), .val (.int c1), .val (.int d0), .val (.int d1), .val (.ref b218), .val (.ref b221), .val (.int (((pp &&& (2147483647 : Int32)) % (65535 : Int32)) + (1 : Int32))), .val (.int q2), .unset, .unset, .unset, .unset] [])) := by
          intro q2 hq1 hq2
          show Done _ p e below s _ _ (T223.setTop (mkF m 168 #[.val (.int aa), .val (.int bb), .val (.int pp), .val (.int qq), .val (.int fl), .val (.int (2 : Int32)), .val (.int (2 : Int32)), .val (.int c0), .val (.int c1), .val (.int d0), .val (.int d1), .val (.ref b218), .val (.ref b221), .val (.int (((pp &&& (2147483647 : Int32)) % (65535 : Int32)) + (1 : Int32))), .val (.int q2), .unset, .unset, .unset, .unset] []))
          obtain ⟨T224, h224, X224, e224, E224, A224, D224, -, st224⟩ := newO X223 hx hZ hown (wAt hw 3 rfl) (wAt hw 4 rfl) (wAt hw 5 rfl) e223 (g := (mkF m 168 #[.val (.int aa), .val (.int bb), .val (.int pp), .val (.int qq), .val (.int fl), .val (.int (2 : Int32)), .val (.int (2 : Int32)), .val (.int c0), .val (.int c1), .val (.int d0), .val (.int d1), .val (.ref b218), .val (.ref b221), .val (.int (((pp &&& (2147483647 : Int32)) % (65535 : Int32)) + (1 : Int32))), .val (.int q2), .unset, .unset, .unset, .unset] [])) rfl (hb hby at_168) (by decide) (by decide)
          obtain ⟨b224, g224⟩ : ∃ z, z = h223.size := ⟨_, rfl⟩
          rw [← g224] at A224 D224 st224
          have f225 := (((V220.ext E221).other W222 ne_b218_b221).other W223 ne_b218_b221)
          have ne_b218_b224 : b218 ≠ b224 := by rw [g224]; exact Nat.ne_of_lt f225.lt
          have ne_b221_b224 : b221 ≠ b224 := by rw [g224]; exact Nat.ne_of_lt V223.lt
          have n0_b224 : n0 ≤ b224 := by rw [g224]; exact Zs223
          have Zs224 := Nat.le_trans Zs223 E224.1
          have F_m_host_b224 : Fld Z h224 b224 "com/example/minho/minho/core/Address" "m_host" "Ljava/lang/String;" .null := D224 (Or.inr (wAt hw 46 rfl)) (ty := (.object "java/lang/String")) (by decide)
          have F_m_port_b224 : Fld Z h224 b224 "com/example/minho/minho/core/Address" "m_port" "I" (.int (0 : Int32)) := D224 (Or.inr (wAt hw 48 rfl)) (ty := .int) (by decide)
          refine Done.step st224 ?_
          show Done _ p e below s _ _ (T224.setTop (mkF m 171 #[.val (.int aa), .val (.int bb), .val (.int pp), .val (.int qq), .val (.int fl), .val (.int (2 : Int32)), .val (.int (2 : Int32)), .val (.int c0), .val (.int c1), .val (.int d0), .val (.int d1), .val (.ref b218), .val (.ref b221), .val (.int (((pp &&& (2147483647 : Int32)) % (65535 : Int32)) + (1 : Int32))), .val (.int q2), .unset, .unset, .unset, .unset] [(.ref b224)]))
          refine Done.step (fun _ => XS.dup X224.here hx rfl (hb hby at_171) rfl rfl) ?_
          show Done _ p e below s _ _ (T224.setTop (mkF m 172 #[.val (.int aa), .val (.int bb), .val (.int pp), .val (.int qq), .val (.int fl), .val (.int (2 : Int32)), .val (.int (2 : Int32)), .val (.int c0), .val (.int c1), .val (.int d0), .val (.int d1), .val (.ref b218), .val (.ref b221), .val (.int (((pp &&& (2147483647 : Int32)) % (65535 : Int32)) + (1 : Int32))), .val (.int q2), .unset, .unset, .unset, .unset] [(.ref b224), (.ref b224)]))
          obtain ⟨T226, h226, X226, e226, E226, A226, D226, -, st226⟩ := newO X224 hx hZ hown (wAt hw 6 rfl) (wAt hw 7 rfl) (wAt hw 8 rfl) e224 (g := (mkF m 172 #[.val (.int aa), .val (.int bb), .val (.int pp), .val (.int qq), .val (.int fl), .val (.int (2 : Int32)), .val (.int (2 : Int32)), .val (.int c0), .val (.int c1), .val (.int d0), .val (.int d1), .val (.ref b218), .val (.ref b221), .val (.int (((pp &&& (2147483647 : Int32)) % (65535 : Int32)) + (1 : Int32))), .val (.int q2), .unset, .unset, .unset, .unset] [(.ref b224), (.ref b224)])) rfl (hb hby at_172) (by decide) (by decide)
          obtain ⟨b226, g226⟩ : ∃ z, z = h224.size := ⟨_, rfl⟩
          rw [← g226] at A226 D226 st226
          have f227 := (f225.ext E224)
          have ne_b218_b226 : b218 ≠ b226 := by rw [g226]; exact Nat.ne_of_lt f227.lt
          have f228 := (V223.ext E224)
          have ne_b221_b226 : b221 ≠ b226 := by rw [g226]; exact Nat.ne_of_lt f228.lt
          have ne_b224_b226 : b224 ≠ b226 := by rw [g226]; exact Nat.ne_of_lt A224.lt
          have n0_b226 : n0 ≤ b226 := by rw [g226]; exact Zs224
          have Zs226 := Nat.le_trans Zs224 E226.1
          have F_coder_b226 : Fld Z h226 b226 "java/lang/String" "coder" "B" (.int (0 : Int32)) := D226 (Or.inr (wAt hw 32 rfl)) (ty := .byte) (by decide)
          have F_value_b226 : Fld Z h226 b226 "java/lang/String" "value" "[B" .null := D226 (Or.inr (wAt hw 34 rfl)) (ty := (.array .byte)) (by decide)
          refine Done.step st226 ?_
          show Done _ p e below s _ _ (T226.setTop (mkF m 175 #[.val (.int aa), .val (.int bb), .val (.int pp), .val (.int qq), .val (.int fl), .val (.int (2 : Int32)), .val (.int (2 : Int32)), .val (.int c0), .val (.int c1), .val (.int d0), .val (.int d1), .val (.ref b218), .val (.ref b221), .val (.int (((pp &&& (2147483647 : Int32)) % (65535 : Int32)) + (1 : Int32))), .val (.int q2), .unset, .unset, .unset, .unset] [(.ref b226), (.ref b224), (.ref b224)]))
          refine Done.step (fun _ => XS.dup X226.here hx rfl (hb hby at_175) rfl rfl) ?_
          show Done _ p e below s _ _ (T226.setTop (mkF m 176 #[.val (.int aa), .val (.int bb), .val (.int pp), .val (.int qq), .val (.int fl), .val (.int (2 : Int32)), .val (.int (2 : Int32)), .val (.int c0), .val (.int c1), .val (.int d0), .val (.int d1), .val (.ref b218), .val (.ref b221), .val (.int (((pp &&& (2147483647 : Int32)) % (65535 : Int32)) + (1 : Int32))), .val (.int q2), .unset, .unset, .unset, .unset] [(.ref b226), (.ref b226), (.ref b224), (.ref b224)]))
          refine Done.step (fun _ => XS.aload X226.here hx rfl (hb hby at_176) rfl rfl) ?_
          show Done _ p e below s _ _ (T226.setTop (mkF m 178 #[.val (.int aa), .val (.int bb), .val (.int pp), .val (.int qq), .val (.int fl), .val (.int (2 : Int32)), .val (.int (2 : Int32)), .val (.int c0), .val (.int c1), .val (.int d0), .val (.int d1), .val (.ref b218), .val (.ref b221), .val (.int (((pp &&& (2147483647 : Int32)) % (65535 : Int32)) + (1 : Int32))), .val (.int q2), .unset, .unset, .unset, .unset] [(.ref b218), (.ref b226), (.ref b226), (.ref b224), (.ref b224)]))
          have f230 := (f227.ext E226)
          have Vs229 : Arv Z h226 b218 k218 .char (2 : Int32) (([nar .char c0, nar .char c1] : List Int32).map Value.int) (.int (0 : Int32)) := f230
          rw [own_nar bc0.1 (own_up [c0] (by intro c hc; cases List.mem_singleton.mp hc; exact bc0) _ (List.mem_singleton.mpr rfl)).2, own_nar bc1.1 (own_up [c1] (by intro c hc; cases List.mem_singleton.mp hc; exact bc1) _ (List.mem_singleton.mpr rfl)).2] at Vs229
          have hp231 : ∀ c ∈ ([c0, c1] : List Int32), ¬ c < 0 ∧ ¬ (255 : Int32) < c := (by intro c hc; simp only [List.mem_cons, List.not_mem_nil, or_false] at hc; rcases hc with rfl | rfl <;> assumption)
          have hbd231 := own_up _ hp231
          have f232 := ((((((((O0.ext E218).wr W219 n0_b218).wr W220 n0_b218).ext E221).wr W222 n0_b221).wr W223 n0_b221).ext E224).ext E226)
          refine Done.callIB (nc := 1) (ns := 2) X226 hx hZ rfl hown (wAt hw 9 rfl) (wAt hw 10 rfl) (wAt hw 11 rfl) (by decide) (StrChars.Road.backV (W := 3) hZ (own_hws hw) (kI := 4) (wAt hw 7 rfl) (cs := ([c0, c1] : List Int32)) (bs := ((([c0, c1] : List Int32)).map (fun c => c.toInt8.toInt32))) (n := 2) n0_b226 Zs226 A226 F_value_b226 F_coder_b226 Vs229 (SC.ext f232.2) hz rfl rfl (by decide) (by decide) hp231 rfl (by decide) (by decide)) e226 (g := (mkF m 178 #[.val (.int aa), .val (.int bb), .val (.int pp), .val (.int qq), .val (.int fl), .val (.int (2 : Int32)), .val (.int (2 : Int32)), .val (.int c0), .val (.int c1), .val (.int d0), .val (.int d1), .val (.ref b218), .val (.ref b221), .val (.int (((pp &&& (2147483647 : Int32)) % (65535 : Int32)) + (1 : Int32))), .val (.int q2), .unset, .unset, .unset, .unset] [(.ref b218), (.ref b226), (.ref b226), (.ref b224), (.ref b224)])) rfl (by rw [hml]; rfl) b226 [(.ref b218)] [(.ref b226), (.ref b224), (.ref b224)] (lenOf pd_4 rfl) rfl rfl (by show 2 * 0 + _ ≤ _; exact Nat.le_of_eq rfl) (hb hby at_178) (by decide) (by decide) ?_
          intro T231 v231 L231 X231 q231
          obtain ⟨rfl, Nq231, K231q, Eq231, Cq231, t231, kb231, n0_t231, szt231, net231, Vq231, Aq231⟩ := q231
          have ne_b218_t231 : b218 ≠ t231 := Nat.ne_of_lt (Nat.lt_of_lt_of_le f230.lt szt231)
          have f233 := (f228.ext E226)
          have ne_b221_t231 : b221 ≠ t231 := Nat.ne_of_lt (Nat.lt_of_lt_of_le f233.lt szt231)
          have f234 := (A224.ext E226)
          have ne_b224_t231 : b224 ≠ t231 := Nat.ne_of_lt (Nat.lt_of_lt_of_le f234.lt szt231)
          have ne_b226_t231 : b226 ≠ t231 := Ne.symm net231
          have N231 := Fr.app N223 Nq231
          have Zs231 := Nat.le_trans Zs226 K231q.1
          have hcd231 : StrChars.Road.CodA ([c0, c1] : List Int32) 0 (2 : Int32) ((((([c0, c1] : List Int32)).map (fun c => c.toInt8.toInt32))).map Value.int) := StrChars.Road.codOf (n := 2) rfl (fun c hc => (hp231 c hc).2)
          show Done _ p e below s _ _ (T231.setTop (mkF m 181 #[.val (.int aa), .val (.int bb), .val (.int pp), .val (.int qq), .val (.int fl), .val (.int (2 : Int32)), .val (.int (2 : Int32)), .val (.int c0), .val (.int c1), .val (.int d0), .val (.int d1), .val (.ref b218), .val (.ref b221), .val (.int (((pp &&& (2147483647 : Int32)) % (65535 : Int32)) + (1 : Int32))), .val (.int q2), .unset, .unset, .unset, .unset] [(.ref b226), (.ref b224), (.ref b224)]))
          refine Done.step (fun _ => XS.iload X231.here hx rfl (hb hby at_181) rfl) ?_
          show Done _ p e below s _ _ (T231.setTop (mkF m 183 #[.val (.int aa), .val (.int bb), .val (.int pp), .val (.int qq), .val (.int fl), .val (.int (2 : Int32)), .val (.int (2 : Int32)), .val (.int c0), .val (.int c1), .val (.int d0), .val (.int d1), .val (.ref b218), .val (.ref b221), .val (.int (((pp &&& (2147483647 : Int32)) % (65535 : Int32)) + (1 : Int32))), .val (.int q2), .unset, .unset, .unset, .unset] [(.int (((pp &&& (2147483647 : Int32)) % (65535 : Int32)) + (1 : Int32))), (.ref b226), (.ref b224), (.ref b224)]))
          have f235 := (f234.keep K231q)
          have f236 := ((F_m_host_b224.ext E226).keep K231q (ninS ne_b224_b226 nin0))
          have f237 := ((F_m_port_b224.ext E226).keep K231q (ninS ne_b224_b226 nin0))
          have f238 := (f232.keep K231q (allS n0_b226 all0))
          refine Done.callI X231 hx hZ rfl hown (wAt hw 35 rfl) (wAt hw 36 rfl) (wAt hw 5 rfl) (wAt hw 37 rfl) (by decide) (rmA l Z a0 hw [] b224 b226 t231 kb231 ([c0, c1] : List Int32) 0 (2 : Int32) ((((([c0, c1] : List Int32)).map (fun c => c.toInt8.toInt32))).map Value.int) (((pp &&& (2147483647 : Int32)) % (65535 : Int32)) + (1 : Int32)) z T231.heap n0 Zs231 f235 f236 f237 n0_b224 Eq231 Vq231 Cq231 Aq231 hcd231 hbd231 (Nat.le_of_ble_eq_true rfl) ne_b224_b226 ne_b224_t231 f238 SC hz (Nat.succ_ne_zero _) hport1.1 hport1.2) (fun _ _ => trivial) rfl (g := (mkF m 183 #[.val (.int aa), .val (.int bb), .val (.int pp), .val (.int qq), .val (.int fl), .val (.int (2 : Int32)), .val (.int (2 : Int32)), .val (.int c0), .val (.int c1), .val (.int d0), .val (.int d1), .val (.ref b218), .val (.ref b221), .val (.int (((pp &&& (2147483647 : Int32)) % (65535 : Int32)) + (1 : Int32))), .val (.int q2), .unset, .unset, .unset, .unset] [(.int (((pp &&& (2147483647 : Int32)) % (65535 : Int32)) + (1 : Int32))), (.ref b226), (.ref b224), (.ref b224)])) rfl (by rw [hml]; rfl) b224 [(.ref b226), (.int (((pp &&& (2147483647 : Int32)) % (65535 : Int32)) + (1 : Int32)))] [(.ref b224)] 1 (lenOf pd_5 rfl) rfl rfl (by show 2 * 0 + _ ≤ _; exact Nat.le_of_eq rfl) (hb hby at_183) (by decide) (by decide) (by decide) (by decide) ?_
          intro T239 v239 L239 X239 q239
          obtain ⟨rfl, Nq239, K239q, f239_0, f239_1, f239_2⟩ := q239
          have N239 := Fr.app N231 Nq239
          have Zs239 := Nat.le_trans Zs231 K239q.1
          show Done _ p e below s _ _ (T239.setTop (mkF m 186 #[.val (.int aa), .val (.int bb), .val (.int pp), .val (.int qq), .val (.int fl), .val (.int (2 : Int32)), .val (.int (2 : Int32)), .val (.int c0), .val (.int c1), .val (.int d0), .val (.int d1), .val (.ref b218), .val (.ref b221), .val (.int (((pp &&& (2147483647 : Int32)) % (65535 : Int32)) + (1 : Int32))), .val (.int q2), .unset, .unset, .unset, .unset] [(.ref b224)]))
          refine Done.step (fun _ => XS.astore X239.here hx rfl (hb hby at_186) rfl rfl (l' := #[.val (.int aa), .val (.int bb), .val (.int pp), .val (.int qq), .val (.int fl), .val (.int (2 : Int32)), .val (.int (2 : Int32)), .val (.int c0), .val (.int c1), .val (.int d0), .val (.int d1), .val (.ref b218), .val (.ref b221), .val (.int (((pp &&& (2147483647 : Int32)) % (65535 : Int32)) + (1 : Int32))), .val (.int q2), .val (.ref b224), .unset, .unset, .unset]) rfl) ?_
          show Done _ p e below s _ _ (T239.setTop (mkF m 188 #[.val (.int aa), .val (.int bb), .val (.int pp), .val (.int qq), .val (.int fl), .val (.int (2 : Int32)), .val (.int (2 : Int32)), .val (.int c0), .val (.int c1), .val (.int d0), .val (.int d1), .val (.ref b218), .val (.ref b221), .val (.int (((pp &&& (2147483647 : Int32)) % (65535 : Int32)) + (1 : Int32))), .val (.int q2), .val (.ref b224), .unset, .unset, .unset] []))
          obtain ⟨T240, h240, X240, e240, E240, A240, D240, -, st240⟩ := newO X239 hx hZ hown (wAt hw 3 rfl) (wAt hw 4 rfl) (wAt hw 5 rfl) rfl (g := (mkF m 188 #[.val (.int aa), .val (.int bb), .val (.int pp), .val (.int qq), .val (.int fl), .val (.int (2 : Int32)), .val (.int (2 : Int32)), .val (.int c0), .val (.int c1), .val (.int d0), .val (.int d1), .val (.ref b218), .val (.ref b221), .val (.int (((pp &&& (2147483647 : Int32)) % (65535 : Int32)) + (1 : Int32))), .val (.int q2), .val (.ref b224), .unset, .unset, .unset] [])) rfl (hb hby at_188) (by decide) (by decide)
          obtain ⟨b240, g240⟩ : ∃ z, z = T239.heap.size := ⟨_, rfl⟩
          rw [← g240] at A240 D240 st240
          have f241 := ((f230.keep K231q (ninS ne_b218_b226 nin0)).keep K239q (ninS ne_b218_b224 nin0))
          have ne_b218_b240 : b218 ≠ b240 := by rw [g240]; exact Nat.ne_of_lt f241.lt
          have f242 := ((f233.keep K231q (ninS ne_b221_b226 nin0)).keep K239q (ninS ne_b221_b224 nin0))
          have ne_b221_b240 : b221 ≠ b240 := by rw [g240]; exact Nat.ne_of_lt f242.lt
          have ne_b224_b240 : b224 ≠ b240 := by rw [g240]; exact Nat.ne_of_lt f239_0.lt
          have f243 := (Eq231.keep K239q)
          have ne_b226_b240 : b226 ≠ b240 := by rw [g240]; exact Nat.ne_of_lt f243.lt
          have f244 := (Aq231.keep K239q (ninS (Ne.symm ne_b224_t231) nin0))
          have ne_t231_b240 : t231 ≠ b240 := by rw [g240]; exact Nat.ne_of_lt f244.lt
          have n0_b240 : n0 ≤ b240 := by rw [g240]; exact Zs239
          have Zs240 := Nat.le_trans Zs239 E240.1
          have F_m_host_b240 : Fld Z h240 b240 "com/example/minho/minho/core/Address" "m_host" "Ljava/lang/String;" .null := D240 (Or.inr (wAt hw 46 rfl)) (ty := (.object "java/lang/String")) (by decide)
          have F_m_port_b240 : Fld Z h240 b240 "com/example/minho/minho/core/Address" "m_port" "I" (.int (0 : Int32)) := D240 (Or.inr (wAt hw 48 rfl)) (ty := .int) (by decide)
          refine Done.step st240 ?_
          show Done _ p e below s _ _ (T240.setTop (mkF m 191 #[.val (.int aa), .val (.int bb), .val (.int pp), .val (.int qq), .val (.int fl), .val (.int (2 : Int32)), .val (.int (2 : Int32)), .val (.int c0), .val (.int c1), .val (.int d0), .val (.int d1), .val (.ref b218), .val (.ref b221), .val (.int (((pp &&& (2147483647 : Int32)) % (65535 : Int32)) + (1 : Int32))), .val (.int q2), .val (.ref b224), .unset, .unset, .unset] [(.ref b240)]))
          refine Done.step (fun _ => XS.dup X240.here hx rfl (hb hby at_191) rfl rfl) ?_
          show Done _ p e below s _ _ (T240.setTop (mkF m 192 #[.val (.int aa), .val (.int bb), .val (.int pp), .val (.int qq), .val (.int fl), .val (.int (2 : Int32)), .val (.int (2 : Int32)), .val (.int c0), .val (.int c1), .val (.int d0), .val (.int d1), .val (.ref b218), .val (.ref b221), .val (.int (((pp &&& (2147483647 : Int32)) % (65535 : Int32)) + (1 : Int32))), .val (.int q2), .val (.ref b224), .unset, .unset, .unset] [(.ref b240), (.ref b240)]))
          obtain ⟨T245, h245, X245, e245, E245, A245, D245, -, st245⟩ := newO X240 hx hZ hown (wAt hw 6 rfl) (wAt hw 7 rfl) (wAt hw 8 rfl) e240 (g := (mkF m 192 #[.val (.int aa), .val (.int bb), .val (.int pp), .val (.int qq), .val (.int fl), .val (.int (2 : Int32)), .val (.int (2 : Int32)), .val (.int c0), .val (.int c1), .val (.int d0), .val (.int d1), .val (.ref b218), .val (.ref b221), .val (.int (((pp &&& (2147483647 : Int32)) % (65535 : Int32)) + (1 : Int32))), .val (.int q2), .val (.ref b224), .unset, .unset, .unset] [(.ref b240), (.ref b240)])) rfl (hb hby at_192) (by decide) (by decide)
          obtain ⟨b245, g245⟩ : ∃ z, z = h240.size := ⟨_, rfl⟩
          rw [← g245] at A245 D245 st245
          have f246 := (f241.ext E240)
          have ne_b218_b245 : b218 ≠ b245 := by rw [g245]; exact Nat.ne_of_lt f246.lt
          have f247 := (f242.ext E240)
          have ne_b221_b245 : b221 ≠ b245 := by rw [g245]; exact Nat.ne_of_lt f247.lt
          have f248 := (f239_0.ext E240)
          have ne_b224_b245 : b224 ≠ b245 := by rw [g245]; exact Nat.ne_of_lt f248.lt
          have f249 := (f243.ext E240)
          have ne_b226_b245 : b226 ≠ b245 := by rw [g245]; exact Nat.ne_of_lt f249.lt
          have f250 := (f244.ext E240)
          have ne_t231_b245 : t231 ≠ b245 := by rw [g245]; exact Nat.ne_of_lt f250.lt
          have ne_b240_b245 : b240 ≠ b245 := by rw [g245]; exact Nat.ne_of_lt A240.lt
          have n0_b245 : n0 ≤ b245 := by rw [g245]; exact Zs240
          have Zs245 := Nat.le_trans Zs240 E245.1
          have F_coder_b245 : Fld Z h245 b245 "java/lang/String" "coder" "B" (.int (0 : Int32)) := D245 (Or.inr (wAt hw 32 rfl)) (ty := .byte) (by decide)
          have F_value_b245 : Fld Z h245 b245 "java/lang/String" "value" "[B" .null := D245 (Or.inr (wAt hw 34 rfl)) (ty := (.array .byte)) (by decide)
          refine Done.step st245 ?_
          show Done _ p e below s _ _ (T245.setTop (mkF m 195 #[.val (.int aa), .val (.int bb), .val (.int pp), .val (.int qq), .val (.int fl), .val (.int (2 : Int32)), .val (.int (2 : Int32)), .val (.int c0), .val (.int c1), .val (.int d0), .val (.int d1), .val (.ref b218), .val (.ref b221), .val (.int (((pp &&& (2147483647 : Int32)) % (65535 : Int32)) + (1 : Int32))), .val (.int q2), .val (.ref b224), .unset, .unset, .unset] [(.ref b245), (.ref b240), (.ref b240)]))
          refine Done.step (fun _ => XS.dup X245.here hx rfl (hb hby at_195) rfl rfl) ?_
          show Done _ p e below s _ _ (T245.setTop (mkF m 196 #[.val (.int aa), .val (.int bb), .val (.int pp), .val (.int qq), .val (.int fl), .val (.int (2 : Int32)), .val (.int (2 : Int32)), .val (.int c0), .val (.int c1), .val (.int d0), .val (.int d1), .val (.ref b218), .val (.ref b221), .val (.int (((pp &&& (2147483647 : Int32)) % (65535 : Int32)) + (1 : Int32))), .val (.int q2), .val (.ref b224), .unset, .unset, .unset] [(.ref b245), (.ref b245), (.ref b240), (.ref b240)]))
          refine Done.step (fun _ => XS.aload X245.here hx rfl (hb hby at_196) rfl rfl) ?_
          show Done _ p e below s _ _ (T245.setTop (mkF m 198 #[.val (.int aa), .val (.int bb), .val (.int pp), .val (.int qq), .val (.int fl), .val (.int (2 : Int32)), .val (.int (2 : Int32)), .val (.int c0), .val (.int c1), .val (.int d0), .val (.int d1), .val (.ref b218), .val (.ref b221), .val (.int (((pp &&& (2147483647 : Int32)) % (65535 : Int32)) + (1 : Int32))), .val (.int q2), .val (.ref b224), .unset, .unset, .unset] [(.ref b221), (.ref b245), (.ref b245), (.ref b240), (.ref b240)]))
          have f252 := (f247.ext E245)
          have Vs251 : Arv Z h245 b221 k221 .char (2 : Int32) (([nar .char d0, nar .char d1] : List Int32).map Value.int) (.int (0 : Int32)) := f252
          rw [own_nar bd0.1 (own_up [d0] (by intro c hc; cases List.mem_singleton.mp hc; exact bd0) _ (List.mem_singleton.mpr rfl)).2, own_nar bd1.1 (own_up [d1] (by intro c hc; cases List.mem_singleton.mp hc; exact bd1) _ (List.mem_singleton.mpr rfl)).2] at Vs251
          have hp253 : ∀ c ∈ ([d0, d1] : List Int32), ¬ c < 0 ∧ ¬ (255 : Int32) < c := (by intro c hc; simp only [List.mem_cons, List.not_mem_nil, or_false] at hc; rcases hc with rfl | rfl <;> assumption)
          have hbd253 := own_up _ hp253
          have f254 := (((f238.keep K239q (allS n0_b224 all0)).ext E240).ext E245)
          refine Done.callIB (nc := 1) (ns := 2) X245 hx hZ rfl hown (wAt hw 9 rfl) (wAt hw 10 rfl) (wAt hw 11 rfl) (by decide) (StrChars.Road.backV (W := 3) hZ (own_hws hw) (kI := 4) (wAt hw 7 rfl) (cs := ([d0, d1] : List Int32)) (bs := ((([d0, d1] : List Int32)).map (fun c => c.toInt8.toInt32))) (n := 2) n0_b245 Zs245 A245 F_value_b245 F_coder_b245 Vs251 (SC.ext f254.2) hz rfl rfl (by decide) (by decide) hp253 rfl (by decide) (by decide)) e245 (g := (mkF m 198 #[.val (.int aa), .val (.int bb), .val (.int pp), .val (.int qq), .val (.int fl), .val (.int (2 : Int32)), .val (.int (2 : Int32)), .val (.int c0), .val (.int c1), .val (.int d0), .val (.int d1), .val (.ref b218), .val (.ref b221), .val (.int (((pp &&& (2147483647 : Int32)) % (65535 : Int32)) + (1 : Int32))), .val (.int q2), .val (.ref b224), .unset, .unset, .unset] [(.ref b221), (.ref b245), (.ref b245), (.ref b240), (.ref b240)])) rfl (by rw [hml]; rfl) b245 [(.ref b221)] [(.ref b245), (.ref b240), (.ref b240)] (lenOf pd_4 rfl) rfl rfl (by show 2 * 0 + _ ≤ _; exact Nat.le_of_eq rfl) (hb hby at_198) (by decide) (by decide) ?_
          intro T253 v253 L253 X253 q253
          obtain ⟨rfl, Nq253, K253q, Eq253, Cq253, t253, kb253, n0_t253, szt253, net253, Vq253, Aq253⟩ := q253
          have f255 := (f246.ext E245)
          have ne_b218_t253 : b218 ≠ t253 := Nat.ne_of_lt (Nat.lt_of_lt_of_le f255.lt szt253)
          have ne_b221_t253 : b221 ≠ t253 := Nat.ne_of_lt (Nat.lt_of_lt_of_le f252.lt szt253)
          have f256 := (f248.ext E245)
          have ne_b224_t253 : b224 ≠ t253 := Nat.ne_of_lt (Nat.lt_of_lt_of_le f256.lt szt253)
          have f257 := (f249.ext E245)
          have ne_b226_t253 : b226 ≠ t253 := Nat.ne_of_lt (Nat.lt_of_lt_of_le f257.lt szt253)
          have f258 := (f250.ext E245)
          have ne_t231_t253 : t231 ≠ t253 := Nat.ne_of_lt (Nat.lt_of_lt_of_le f258.lt szt253)
          have f259 := (A240.ext E245)
          have ne_b240_t253 : b240 ≠ t253 := Nat.ne_of_lt (Nat.lt_of_lt_of_le f259.lt szt253)
          have ne_b245_t253 : b245 ≠ t253 := Ne.symm net253
          have N253 := Fr.app N239 Nq253
          have Zs253 := Nat.le_trans Zs245 K253q.1
          have hcd253 : StrChars.Road.CodA ([d0, d1] : List Int32) 0 (2 : Int32) ((((([d0, d1] : List Int32)).map (fun c => c.toInt8.toInt32))).map Value.int) := StrChars.Road.codOf (n := 2) rfl (fun c hc => (hp253 c hc).2)
          show Done _ p e below s _ _ (T253.setTop (mkF m 201 #[.val (.int aa), .val (.int bb), .val (.int pp), .val (.int qq), .val (.int fl), .val (.int (2 : Int32)), .val (.int (2 : Int32)), .val (.int c0), .val (.int c1), .val (.int d0), .val (.int d1), .val (.ref b218), .val (.ref b221), .val (.int (((pp &&& (2147483647 : Int32)) % (65535 : Int32)) + (1 : Int32))), .val (.int q2), .val (.ref b224), .unset, .unset, .unset] [(.ref b245), (.ref b240), (.ref b240)]))
          refine Done.step (fun _ => XS.iload X253.here hx rfl (hb hby at_201) rfl) ?_
          show Done _ p e below s _ _ (T253.setTop (mkF m 203 #[.val (.int aa), .val (.int bb), .val (.int pp), .val (.int qq), .val (.int fl), .val (.int (2 : Int32)), .val (.int (2 : Int32)), .val (.int c0), .val (.int c1), .val (.int d0), .val (.int d1), .val (.ref b218), .val (.ref b221), .val (.int (((pp &&& (2147483647 : Int32)) % (65535 : Int32)) + (1 : Int32))), .val (.int q2), .val (.ref b224), .unset, .unset, .unset] [(.int q2), (.ref b245), (.ref b240), (.ref b240)]))
          have f260 := (f259.keep K253q)
          have f261 := ((F_m_host_b240.ext E245).keep K253q (ninS ne_b240_b245 nin0))
          have f262 := ((F_m_port_b240.ext E245).keep K253q (ninS ne_b240_b245 nin0))
          have f263 := (f254.keep K253q (allS n0_b245 all0))
          refine Done.callI X253 hx hZ rfl hown (wAt hw 35 rfl) (wAt hw 36 rfl) (wAt hw 5 rfl) (wAt hw 37 rfl) (by decide) (rmA l Z a0 hw [] b240 b245 t253 kb253 ([d0, d1] : List Int32) 0 (2 : Int32) ((((([d0, d1] : List Int32)).map (fun c => c.toInt8.toInt32))).map Value.int) q2 z T253.heap n0 Zs253 f260 f261 f262 n0_b240 Eq253 Vq253 Cq253 Aq253 hcd253 hbd253 (Nat.le_of_ble_eq_true rfl) ne_b240_b245 ne_b240_t253 f263 SC hz (Nat.succ_ne_zero _) hq1 hq2) (fun _ _ => trivial) rfl (g := (mkF m 203 #[.val (.int aa), .val (.int bb), .val (.int pp), .val (.int qq), .val (.int fl), .val (.int (2 : Int32)), .val (.int (2 : Int32)), .val (.int c0), .val (.int c1), .val (.int d0), .val (.int d1), .val (.ref b218), .val (.ref b221), .val (.int (((pp &&& (2147483647 : Int32)) % (65535 : Int32)) + (1 : Int32))), .val (.int q2), .val (.ref b224), .unset, .unset, .unset] [(.int q2), (.ref b245), (.ref b240), (.ref b240)])) rfl (by rw [hml]; rfl) b240 [(.ref b245), (.int q2)] [(.ref b240)] 1 (lenOf pd_5 rfl) rfl rfl (by show 2 * 0 + _ ≤ _; exact Nat.le_of_eq rfl) (hb hby at_203) (by decide) (by decide) (by decide) (by decide) ?_
          intro T264 v264 L264 X264 q264
          obtain ⟨rfl, Nq264, K264q, f264_0, f264_1, f264_2⟩ := q264
          have N264 := Fr.app N253 Nq264
          have Zs264 := Nat.le_trans Zs253 K264q.1
          show Done _ p e below s _ _ (T264.setTop (mkF m 206 #[.val (.int aa), .val (.int bb), .val (.int pp), .val (.int qq), .val (.int fl), .val (.int (2 : Int32)), .val (.int (2 : Int32)), .val (.int c0), .val (.int c1), .val (.int d0), .val (.int d1), .val (.ref b218), .val (.ref b221), .val (.int (((pp &&& (2147483647 : Int32)) % (65535 : Int32)) + (1 : Int32))), .val (.int q2), .val (.ref b224), .unset, .unset, .unset] [(.ref b240)]))
          refine Done.step (fun _ => XS.astore X264.here hx rfl (hb hby at_206) rfl rfl (l' := #[.val (.int aa), .val (.int bb), .val (.int pp), .val (.int qq), .val (.int fl), .val (.int (2 : Int32)), .val (.int (2 : Int32)), .val (.int c0), .val (.int c1), .val (.int d0), .val (.int d1), .val (.ref b218), .val (.ref b221), .val (.int (((pp &&& (2147483647 : Int32)) % (65535 : Int32)) + (1 : Int32))), .val (.int q2), .val (.ref b224), .val (.ref b240), .unset, .unset]) rfl) ?_
          show Done _ p e below s _ _ (T264.setTop (mkF m 208 #[.val (.int aa), .val (.int bb), .val (.int pp), .val (.int qq), .val (.int fl), .val (.int (2 : Int32)), .val (.int (2 : Int32)), .val (.int c0), .val (.int c1), .val (.int d0), .val (.int d1), .val (.ref b218), .val (.ref b221), .val (.int (((pp &&& (2147483647 : Int32)) % (65535 : Int32)) + (1 : Int32))), .val (.int q2), .val (.ref b224), .val (.ref b240), .unset, .unset] []))
          have K249 : ∀ (ex : Int32) (hex : ex = bP (([d0, d1] : List Int32) = ([c0, c1] : List Int32) ∧ q2 = (((pp &&& (2147483647 : Int32)) % (65535 : Int32)) + (1 : Int32)))), Done FrameEnd p e below s room_1 (LawQ n0) (T264.setTop (mkF m 249 #[.val (.int aa), .val (.int bb), .val (.int pp), .val (.int qq), .val (.int fl), .val (.int (2 : Int32)), .val (.int (2 : Int32)), .val (.int c0), .val (.int c1), .val (.int d0), .val (.int d1), .val (.ref b218), .val (.ref b221), .val (.int (((pp &&& (2147483647 : Int32)) % (65535 : Int32)) + (1 : Int32))), .val (.int q2), .val (.ref b224), .val (.ref b240), .val (.int ex), .unset] [])) := by
            intro ex hex
            show Done _ p e below s _ _ (T264.setTop (mkF m 249 #[.val (.int aa), .val (.int bb), .val (.int pp), .val (.int qq), .val (.int fl), .val (.int (2 : Int32)), .val (.int (2 : Int32)), .val (.int c0), .val (.int c1), .val (.int d0), .val (.int d1), .val (.ref b218), .val (.ref b221), .val (.int (((pp &&& (2147483647 : Int32)) % (65535 : Int32)) + (1 : Int32))), .val (.int q2), .val (.ref b224), .val (.ref b240), .val (.int ex), .unset] []))
            refine Done.step (fun _ => XS.iload X264.here hx rfl (hb hby at_249) rfl) ?_
            show Done _ p e below s _ _ (T264.setTop (mkF m 251 #[.val (.int aa), .val (.int bb), .val (.int pp), .val (.int qq), .val (.int fl), .val (.int (2 : Int32)), .val (.int (2 : Int32)), .val (.int c0), .val (.int c1), .val (.int d0), .val (.int d1), .val (.ref b218), .val (.ref b221), .val (.int (((pp &&& (2147483647 : Int32)) % (65535 : Int32)) + (1 : Int32))), .val (.int q2), .val (.ref b224), .val (.ref b240), .val (.int ex), .unset] [(.int (((pp &&& (2147483647 : Int32)) % (65535 : Int32)) + (1 : Int32)))]))
            have f266 := (f263.keep K264q (allS n0_b240 all0))
            refine Done.callS X264 hx hZ hown (wAt hw 49 rfl) (wAt hw 50 rfl) (wAt hw 51 rfl) (wAt hw 52 rfl) (by decide) (rmV l Z a0 hw [] (((pp &&& (2147483647 : Int32)) % (65535 : Int32)) + (1 : Int32)) cA cl T264.heap n0 Zs264 f266 SH SK CA hsz hel hport1.1) (fun _ _ => trivial) rfl (g := (mkF m 251 #[.val (.int aa), .val (.int bb), .val (.int pp), .val (.int qq), .val (.int fl), .val (.int (2 : Int32)), .val (.int (2 : Int32)), .val (.int c0), .val (.int c1), .val (.int d0), .val (.int d1), .val (.ref b218), .val (.ref b221), .val (.int (((pp &&& (2147483647 : Int32)) % (65535 : Int32)) + (1 : Int32))), .val (.int q2), .val (.ref b224), .val (.ref b240), .val (.int ex), .unset] [(.int (((pp &&& (2147483647 : Int32)) % (65535 : Int32)) + (1 : Int32)))])) rfl (by rw [hml]; rfl) [(.int (((pp &&& (2147483647 : Int32)) % (65535 : Int32)) + (1 : Int32)))] [] 0 (lenOf pd_6 rfl) rfl rfl (by show 2 * 0 + _ ≤ _; exact Nat.le_of_eq rfl) (hb hby at_251) (by decide) (by decide) (by decide) (by decide) ?_
            intro T265 v265 L265 X265 q265
            obtain ⟨rI, rfl, Nq265, K265q, Er265⟩ := q265
            have N265 := Fr.app N264 Nq265
            have Zs265 := Nat.le_trans Zs264 K265q.1
            show Done _ p e below s _ _ (T265.setTop (mkF m 254 #[.val (.int aa), .val (.int bb), .val (.int pp), .val (.int qq), .val (.int fl), .val (.int (2 : Int32)), .val (.int (2 : Int32)), .val (.int c0), .val (.int c1), .val (.int d0), .val (.int d1), .val (.ref b218), .val (.ref b221), .val (.int (((pp &&& (2147483647 : Int32)) % (65535 : Int32)) + (1 : Int32))), .val (.int q2), .val (.ref b224), .val (.ref b240), .val (.int ex), .unset] [(.ref rI)]))
            refine Done.step (fun _ => XS.astore X265.here hx rfl (hb hby at_254) rfl rfl (l' := #[.val (.int aa), .val (.int bb), .val (.int pp), .val (.int qq), .val (.int fl), .val (.int (2 : Int32)), .val (.int (2 : Int32)), .val (.int c0), .val (.int c1), .val (.int d0), .val (.int d1), .val (.ref b218), .val (.ref b221), .val (.int (((pp &&& (2147483647 : Int32)) % (65535 : Int32)) + (1 : Int32))), .val (.int q2), .val (.ref b224), .val (.ref b240), .val (.int ex), .val (.ref rI)]) rfl) ?_
            show Done _ p e below s _ _ (T265.setTop (mkF m 256 #[.val (.int aa), .val (.int bb), .val (.int pp), .val (.int qq), .val (.int fl), .val (.int (2 : Int32)), .val (.int (2 : Int32)), .val (.int c0), .val (.int c1), .val (.int d0), .val (.int d1), .val (.ref b218), .val (.ref b221), .val (.int (((pp &&& (2147483647 : Int32)) % (65535 : Int32)) + (1 : Int32))), .val (.int q2), .val (.ref b224), .val (.ref b240), .val (.int ex), .val (.ref rI)] []))
            refine Done.step (fun _ => XS.aload X265.here hx rfl (hb hby at_256) rfl rfl) ?_
            show Done _ p e below s _ _ (T265.setTop (mkF m 258 #[.val (.int aa), .val (.int bb), .val (.int pp), .val (.int qq), .val (.int fl), .val (.int (2 : Int32)), .val (.int (2 : Int32)), .val (.int c0), .val (.int c1), .val (.int d0), .val (.int d1), .val (.ref b218), .val (.ref b221), .val (.int (((pp &&& (2147483647 : Int32)) % (65535 : Int32)) + (1 : Int32))), .val (.int q2), .val (.ref b224), .val (.ref b240), .val (.int ex), .val (.ref rI)] [(.ref b224)]))
            refine Done.step (fun _ => XS.aload X265.here hx rfl (hb hby at_258) rfl rfl) ?_
            show Done _ p e below s _ _ (T265.setTop (mkF m 260 #[.val (.int aa), .val (.int bb), .val (.int pp), .val (.int qq), .val (.int fl), .val (.int (2 : Int32)), .val (.int (2 : Int32)), .val (.int c0), .val (.int c1), .val (.int d0), .val (.int d1), .val (.ref b218), .val (.ref b221), .val (.int (((pp &&& (2147483647 : Int32)) % (65535 : Int32)) + (1 : Int32))), .val (.int q2), .val (.ref b224), .val (.ref b240), .val (.int ex), .val (.ref rI)] [(.ref b240), (.ref b224)]))
            have f267 := (((f257.keep K253q).keep K264q).keep K265q)
            have f268 := ((((((Vq231.keep K239q (ninS (Ne.symm ne_b224_b226) nin0)).ext E240).ext E245).keep K253q (ninS ne_b226_b245 nin0)).keep K264q (ninS ne_b226_b240 nin0)).keep K265q nin0)
            have f269 := ((((((Cq231.keep K239q (ninS (Ne.symm ne_b224_b226) nin0)).ext E240).ext E245).keep K253q (ninS ne_b226_b245 nin0)).keep K264q (ninS ne_b226_b240 nin0)).keep K265q nin0)
            have f270 := (((f258.keep K253q (ninS ne_t231_b245 nin0)).keep K264q (ninS ne_t231_b240 nin0)).keep K265q nin0)
            have f271 := ((Eq253.keep K264q).keep K265q)
            have f272 := ((Vq253.keep K264q (ninS (Ne.symm ne_b240_b245) nin0)).keep K265q nin0)
            have f273 := ((Cq253.keep K264q (ninS (Ne.symm ne_b240_b245) nin0)).keep K265q nin0)
            have f274 := ((Aq253.keep K264q (ninS (Ne.symm ne_b240_t253) nin0)).keep K265q nin0)
            have f275 := (f264_0.keep K265q)
            have f276 := (((((f239_1.ext E240).ext E245).keep K253q (ninS ne_b224_b245 nin0)).keep K264q (ninS ne_b224_b240 nin0)).keep K265q nin0)
            have f277 := (((((f239_2.ext E240).ext E245).keep K253q (ninS ne_b224_b245 nin0)).keep K264q (ninS ne_b224_b240 nin0)).keep K265q nin0)
            have f278 := (f264_1.keep K265q nin0)
            have f279 := (f264_2.keep K265q nin0)
            have f280 := (f266.keep K265q all0)
            have f282 := (((f256.keep K253q).keep K264q).keep K265q)
            refine Done.callVP X265 hx hZ (C := "com/example/minho/minho/core/Address") hown (wAt hw 56 rfl) (wAt hw 57 rfl) (notFace_of_selects (args := #[]) (mvT hZ (wAt hw 59 rfl))) (wAt hw 59 rfl) (wAt hw 58 rfl) (wAt hw 5 rfl) (wAt hw 60 rfl) (by decide) (rmE l Z a0 hw [] b224 b240 b226 t231 kb231 ([c0, c1] : List Int32) 0 (2 : Int32) ((((([c0, c1] : List Int32)).map (fun c => c.toInt8.toInt32))).map Value.int) b245 t253 kb253 ([d0, d1] : List Int32) 0 (2 : Int32) ((((([d0, d1] : List Int32)).map (fun c => c.toInt8.toInt32))).map Value.int) (((pp &&& (2147483647 : Int32)) % (65535 : Int32)) + (1 : Int32)) q2 ex z T265.heap n0 Zs265 f275 f276 f277 f278 f279 f267 f268 f269 f270 hcd231 hbd231 (Nat.le_of_ble_eq_true rfl) f271 f272 f273 f274 hcd253 hbd253 (Nat.le_of_ble_eq_true rfl) f280 SC hz hex) rfl f282 (g := (mkF m 260 #[.val (.int aa), .val (.int bb), .val (.int pp), .val (.int qq), .val (.int fl), .val (.int (2 : Int32)), .val (.int (2 : Int32)), .val (.int c0), .val (.int c1), .val (.int d0), .val (.int d1), .val (.ref b218), .val (.ref b221), .val (.int (((pp &&& (2147483647 : Int32)) % (65535 : Int32)) + (1 : Int32))), .val (.int q2), .val (.ref b224), .val (.ref b240), .val (.int ex), .val (.ref rI)] [(.ref b240), (.ref b224)])) rfl (by rw [hml]; rfl) [(.ref b240)] [] 0 (lenOf pd_1 rfl) rfl rfl (by show 2 * 0 + _ ≤ _; exact Nat.le_of_eq rfl) (hb hby at_260) (by decide) (by decide) (by decide) (by decide) rfl rfl ?_
            intro T281 X281 e281
            show Done _ p e below s _ _ (T281.setTop (mkF m 263 #[.val (.int aa), .val (.int bb), .val (.int pp), .val (.int qq), .val (.int fl), .val (.int (2 : Int32)), .val (.int (2 : Int32)), .val (.int c0), .val (.int c1), .val (.int d0), .val (.int d1), .val (.ref b218), .val (.ref b221), .val (.int (((pp &&& (2147483647 : Int32)) % (65535 : Int32)) + (1 : Int32))), .val (.int q2), .val (.ref b224), .val (.ref b240), .val (.int ex), .val (.ref rI)] [(.int ex)]))
            refine Done.step (fun _ => XS.iload X281.here hx rfl (hb hby at_263) rfl) ?_
            show Done _ p e below s _ _ (T281.setTop (mkF m 265 #[.val (.int aa), .val (.int bb), .val (.int pp), .val (.int qq), .val (.int fl), .val (.int (2 : Int32)), .val (.int (2 : Int32)), .val (.int c0), .val (.int c1), .val (.int d0), .val (.int d1), .val (.ref b218), .val (.ref b221), .val (.int (((pp &&& (2147483647 : Int32)) % (65535 : Int32)) + (1 : Int32))), .val (.int q2), .val (.ref b224), .val (.ref b240), .val (.int ex), .val (.ref rI)] [(.int ex), (.int ex)]))
            refine Done.step (fun _ => XS.icmpNo X281.here hx rfl (hb hby at_265) rfl (XT.ii_ne_f rfl)) ?_
            show Done _ p e below s _ _ (T281.setTop (mkF m 268 #[.val (.int aa), .val (.int bb), .val (.int pp), .val (.int qq), .val (.int fl), .val (.int (2 : Int32)), .val (.int (2 : Int32)), .val (.int c0), .val (.int c1), .val (.int d0), .val (.int d1), .val (.ref b218), .val (.ref b221), .val (.int (((pp &&& (2147483647 : Int32)) % (65535 : Int32)) + (1 : Int32))), .val (.int q2), .val (.ref b224), .val (.ref b240), .val (.int ex), .val (.ref rI)] []))
            refine Done.step (fun _ => XS.aload X281.here hx rfl (hb hby at_268) rfl rfl) ?_
            show Done _ p e below s _ _ (T281.setTop (mkF m 270 #[.val (.int aa), .val (.int bb), .val (.int pp), .val (.int qq), .val (.int fl), .val (.int (2 : Int32)), .val (.int (2 : Int32)), .val (.int c0), .val (.int c1), .val (.int d0), .val (.int d1), .val (.ref b218), .val (.ref b221), .val (.int (((pp &&& (2147483647 : Int32)) % (65535 : Int32)) + (1 : Int32))), .val (.int q2), .val (.ref b224), .val (.ref b240), .val (.int ex), .val (.ref rI)] [(.ref b240)]))
            refine Done.step (fun _ => XS.aload X281.here hx rfl (hb hby at_270) rfl rfl) ?_
            show Done _ p e below s _ _ (T281.setTop (mkF m 272 #[.val (.int aa), .val (.int bb), .val (.int pp), .val (.int qq), .val (.int fl), .val (.int (2 : Int32)), .val (.int (2 : Int32)), .val (.int c0), .val (.int c1), .val (.int d0), .val (.int d1), .val (.ref b218), .val (.ref b221), .val (.int (((pp &&& (2147483647 : Int32)) % (65535 : Int32)) + (1 : Int32))), .val (.int q2), .val (.ref b224), .val (.ref b240), .val (.int ex), .val (.ref rI)] [(.ref b224), (.ref b240)]))
            refine Done.callVP X281 hx hZ (C := "com/example/minho/minho/core/Address") hown (wAt hw 56 rfl) (wAt hw 57 rfl) (notFace_of_selects (args := #[]) (mvT hZ (wAt hw 59 rfl))) (wAt hw 59 rfl) (wAt hw 58 rfl) (wAt hw 5 rfl) (wAt hw 60 rfl) (by decide) (rmE l Z a0 hw [] b240 b224 b245 t253 kb253 ([d0, d1] : List Int32) 0 (2 : Int32) ((((([d0, d1] : List Int32)).map (fun c => c.toInt8.toInt32))).map Value.int) b226 t231 kb231 ([c0, c1] : List Int32) 0 (2 : Int32) ((((([c0, c1] : List Int32)).map (fun c => c.toInt8.toInt32))).map Value.int) q2 (((pp &&& (2147483647 : Int32)) % (65535 : Int32)) + (1 : Int32)) ex z T265.heap n0 Zs265 f282 f278 f279 f276 f277 f271 f272 f273 f274 hcd253 hbd253 (Nat.le_of_ble_eq_true rfl) f267 f268 f269 f270 hcd231 hbd231 (Nat.le_of_ble_eq_true rfl) f280 SC hz (hex.trans (own_bpc _ _ _ _))) e281 f275 (g := (mkF m 272 #[.val (.int aa), .val (.int bb), .val (.int pp), .val (.int qq), .val (.int fl), .val (.int (2 : Int32)), .val (.int (2 : Int32)), .val (.int c0), .val (.int c1), .val (.int d0), .val (.int d1), .val (.ref b218), .val (.ref b221), .val (.int (((pp &&& (2147483647 : Int32)) % (65535 : Int32)) + (1 : Int32))), .val (.int q2), .val (.ref b224), .val (.ref b240), .val (.int ex), .val (.ref rI)] [(.ref b224), (.ref b240)])) rfl (by rw [hml]; rfl) [(.ref b224)] [] 0 (lenOf pd_1 rfl) rfl rfl (by show 2 * 0 + _ ≤ _; exact Nat.le_of_eq rfl) (hb hby at_272) (by decide) (by decide) (by decide) (by decide) rfl rfl ?_
            intro T283 X283 e283
            show Done _ p e below s _ _ (T283.setTop (mkF m 275 #[.val (.int aa), .val (.int bb), .val (.int pp), .val (.int qq), .val (.int fl), .val (.int (2 : Int32)), .val (.int (2 : Int32)), .val (.int c0), .val (.int c1), .val (.int d0), .val (.int d1), .val (.ref b218), .val (.ref b221), .val (.int (((pp &&& (2147483647 : Int32)) % (65535 : Int32)) + (1 : Int32))), .val (.int q2), .val (.ref b224), .val (.ref b240), .val (.int ex), .val (.ref rI)] [(.int ex)]))
            refine Done.step (fun _ => XS.iload X283.here hx rfl (hb hby at_275) rfl) ?_
            show Done _ p e below s _ _ (T283.setTop (mkF m 277 #[.val (.int aa), .val (.int bb), .val (.int pp), .val (.int qq), .val (.int fl), .val (.int (2 : Int32)), .val (.int (2 : Int32)), .val (.int c0), .val (.int c1), .val (.int d0), .val (.int d1), .val (.ref b218), .val (.ref b221), .val (.int (((pp &&& (2147483647 : Int32)) % (65535 : Int32)) + (1 : Int32))), .val (.int q2), .val (.ref b224), .val (.ref b240), .val (.int ex), .val (.ref rI)] [(.int ex), (.int ex)]))
            refine Done.step (fun _ => XS.icmpNo X283.here hx rfl (hb hby at_277) rfl (XT.ii_ne_f rfl)) ?_
            show Done _ p e below s _ _ (T283.setTop (mkF m 280 #[.val (.int aa), .val (.int bb), .val (.int pp), .val (.int qq), .val (.int fl), .val (.int (2 : Int32)), .val (.int (2 : Int32)), .val (.int c0), .val (.int c1), .val (.int d0), .val (.int d1), .val (.ref b218), .val (.ref b221), .val (.int (((pp &&& (2147483647 : Int32)) % (65535 : Int32)) + (1 : Int32))), .val (.int q2), .val (.ref b224), .val (.ref b240), .val (.int ex), .val (.ref rI)] []))
            refine Done.step (fun _ => XS.aload X283.here hx rfl (hb hby at_280) rfl rfl) ?_
            show Done _ p e below s _ _ (T283.setTop (mkF m 282 #[.val (.int aa), .val (.int bb), .val (.int pp), .val (.int qq), .val (.int fl), .val (.int (2 : Int32)), .val (.int (2 : Int32)), .val (.int c0), .val (.int c1), .val (.int d0), .val (.int d1), .val (.ref b218), .val (.ref b221), .val (.int (((pp &&& (2147483647 : Int32)) % (65535 : Int32)) + (1 : Int32))), .val (.int q2), .val (.ref b224), .val (.ref b240), .val (.int ex), .val (.ref rI)] [(.ref b224)]))
            refine Done.step (fun _ => XS.aload X283.here hx rfl (hb hby at_282) rfl rfl) ?_
            show Done _ p e below s _ _ (T283.setTop (mkF m 284 #[.val (.int aa), .val (.int bb), .val (.int pp), .val (.int qq), .val (.int fl), .val (.int (2 : Int32)), .val (.int (2 : Int32)), .val (.int c0), .val (.int c1), .val (.int d0), .val (.int d1), .val (.ref b218), .val (.ref b221), .val (.int (((pp &&& (2147483647 : Int32)) % (65535 : Int32)) + (1 : Int32))), .val (.int q2), .val (.ref b224), .val (.ref b240), .val (.int ex), .val (.ref rI)] [(.ref b224), (.ref b224)]))
            refine Done.callVP X283 hx hZ (C := "com/example/minho/minho/core/Address") hown (wAt hw 56 rfl) (wAt hw 57 rfl) (notFace_of_selects (args := #[]) (mvT hZ (wAt hw 59 rfl))) (wAt hw 59 rfl) (wAt hw 58 rfl) (wAt hw 5 rfl) (wAt hw 60 rfl) (by decide) (rmE l Z a0 hw [] b224 b224 b226 t231 kb231 ([c0, c1] : List Int32) 0 (2 : Int32) ((((([c0, c1] : List Int32)).map (fun c => c.toInt8.toInt32))).map Value.int) b226 t231 kb231 ([c0, c1] : List Int32) 0 (2 : Int32) ((((([c0, c1] : List Int32)).map (fun c => c.toInt8.toInt32))).map Value.int) (((pp &&& (2147483647 : Int32)) % (65535 : Int32)) + (1 : Int32)) (((pp &&& (2147483647 : Int32)) % (65535 : Int32)) + (1 : Int32)) (1 : Int32) z T265.heap n0 Zs265 f282 f276 f277 f276 f277 f267 f268 f269 f270 hcd231 hbd231 (Nat.le_of_ble_eq_true rfl) f267 f268 f269 f270 hcd231 hbd231 (Nat.le_of_ble_eq_true rfl) f280 SC hz (bP_t ⟨rfl, rfl⟩).symm) e283 f282 (g := (mkF m 284 #[.val (.int aa), .val (.int bb), .val (.int pp), .val (.int qq), .val (.int fl), .val (.int (2 : Int32)), .val (.int (2 : Int32)), .val (.int c0), .val (.int c1), .val (.int d0), .val (.int d1), .val (.ref b218), .val (.ref b221), .val (.int (((pp &&& (2147483647 : Int32)) % (65535 : Int32)) + (1 : Int32))), .val (.int q2), .val (.ref b224), .val (.ref b240), .val (.int ex), .val (.ref rI)] [(.ref b224), (.ref b224)])) rfl (by rw [hml]; rfl) [(.ref b224)] [] 0 (lenOf pd_1 rfl) rfl rfl (by show 2 * 0 + _ ≤ _; exact Nat.le_of_eq rfl) (hb hby at_284) (by decide) (by decide) (by decide) (by decide) rfl rfl ?_
            intro T284 X284 e284
            show Done _ p e below s _ _ (T284.setTop (mkF m 287 #[.val (.int aa), .val (.int bb), .val (.int pp), .val (.int qq), .val (.int fl), .val (.int (2 : Int32)), .val (.int (2 : Int32)), .val (.int c0), .val (.int c1), .val (.int d0), .val (.int d1), .val (.ref b218), .val (.ref b221), .val (.int (((pp &&& (2147483647 : Int32)) % (65535 : Int32)) + (1 : Int32))), .val (.int q2), .val (.ref b224), .val (.ref b240), .val (.int ex), .val (.ref rI)] [(.int (1 : Int32))]))
            refine Done.step (fun _ => XS.ifNo X284.here hx rfl (hb hby at_287) rfl (XT.i0_eq_f (by decide))) ?_
            show Done _ p e below s _ _ (T284.setTop (mkF m 290 #[.val (.int aa), .val (.int bb), .val (.int pp), .val (.int qq), .val (.int fl), .val (.int (2 : Int32)), .val (.int (2 : Int32)), .val (.int c0), .val (.int c1), .val (.int d0), .val (.int d1), .val (.ref b218), .val (.ref b221), .val (.int (((pp &&& (2147483647 : Int32)) % (65535 : Int32)) + (1 : Int32))), .val (.int q2), .val (.ref b224), .val (.ref b240), .val (.int ex), .val (.ref rI)] []))
            refine Done.step (fun _ => XS.aload X284.here hx rfl (hb hby at_290) rfl rfl) ?_
            show Done _ p e below s _ _ (T284.setTop (mkF m 292 #[.val (.int aa), .val (.int bb), .val (.int pp), .val (.int qq), .val (.int fl), .val (.int (2 : Int32)), .val (.int (2 : Int32)), .val (.int c0), .val (.int c1), .val (.int d0), .val (.int d1), .val (.ref b218), .val (.ref b221), .val (.int (((pp &&& (2147483647 : Int32)) % (65535 : Int32)) + (1 : Int32))), .val (.int q2), .val (.ref b224), .val (.ref b240), .val (.int ex), .val (.ref rI)] [(.ref b224)]))
            refine Done.step (fun _ => XS.aconstNull X284.here hx rfl (hb hby at_292)) ?_
            show Done _ p e below s _ _ (T284.setTop (mkF m 293 #[.val (.int aa), .val (.int bb), .val (.int pp), .val (.int qq), .val (.int fl), .val (.int (2 : Int32)), .val (.int (2 : Int32)), .val (.int c0), .val (.int c1), .val (.int d0), .val (.int d1), .val (.ref b218), .val (.ref b221), .val (.int (((pp &&& (2147483647 : Int32)) % (65535 : Int32)) + (1 : Int32))), .val (.int q2), .val (.ref b224), .val (.ref b240), .val (.int ex), .val (.ref rI)] [.null, (.ref b224)]))
            refine Done.callVP X284 hx hZ (C := "com/example/minho/minho/core/Address") hown (wAt hw 56 rfl) (wAt hw 57 rfl) (notFace_of_selects (args := #[]) (mvT hZ (wAt hw 59 rfl))) (wAt hw 59 rfl) (wAt hw 58 rfl) (wAt hw 5 rfl) (wAt hw 60 rfl) (by decide) (rmN l Z a0 hw [] b224 T265.heap n0 Zs265) e284 f282 (g := (mkF m 293 #[.val (.int aa), .val (.int bb), .val (.int pp), .val (.int qq), .val (.int fl), .val (.int (2 : Int32)), .val (.int (2 : Int32)), .val (.int c0), .val (.int c1), .val (.int d0), .val (.int d1), .val (.ref b218), .val (.ref b221), .val (.int (((pp &&& (2147483647 : Int32)) % (65535 : Int32)) + (1 : Int32))), .val (.int q2), .val (.ref b224), .val (.ref b240), .val (.int ex), .val (.ref rI)] [.null, (.ref b224)])) rfl (by rw [hml]; rfl) [.null] [] 0 (lenOf pd_1 rfl) rfl rfl (by show 2 * 0 + _ ≤ _; exact Nat.le_of_eq rfl) (hb hby at_293) (by decide) (by decide) (by decide) (by decide) rfl rfl ?_
            intro T285 X285 e285
            show Done _ p e below s _ _ (T285.setTop (mkF m 296 #[.val (.int aa), .val (.int bb), .val (.int pp), .val (.int qq), .val (.int fl), .val (.int (2 : Int32)), .val (.int (2 : Int32)), .val (.int c0), .val (.int c1), .val (.int d0), .val (.int d1), .val (.ref b218), .val (.ref b221), .val (.int (((pp &&& (2147483647 : Int32)) % (65535 : Int32)) + (1 : Int32))), .val (.int q2), .val (.ref b224), .val (.ref b240), .val (.int ex), .val (.ref rI)] [(.int (0 : Int32))]))
            refine Done.step (fun _ => XS.ifNo X285.here hx rfl (hb hby at_296) rfl (XT.i0_ne_f rfl)) ?_
            show Done _ p e below s _ _ (T285.setTop (mkF m 299 #[.val (.int aa), .val (.int bb), .val (.int pp), .val (.int qq), .val (.int fl), .val (.int (2 : Int32)), .val (.int (2 : Int32)), .val (.int c0), .val (.int c1), .val (.int d0), .val (.int d1), .val (.ref b218), .val (.ref b221), .val (.int (((pp &&& (2147483647 : Int32)) % (65535 : Int32)) + (1 : Int32))), .val (.int q2), .val (.ref b224), .val (.ref b240), .val (.int ex), .val (.ref rI)] []))
            refine Done.step (fun _ => XS.aload X285.here hx rfl (hb hby at_299) rfl rfl) ?_
            show Done _ p e below s _ _ (T285.setTop (mkF m 301 #[.val (.int aa), .val (.int bb), .val (.int pp), .val (.int qq), .val (.int fl), .val (.int (2 : Int32)), .val (.int (2 : Int32)), .val (.int c0), .val (.int c1), .val (.int d0), .val (.int d1), .val (.ref b218), .val (.ref b221), .val (.int (((pp &&& (2147483647 : Int32)) % (65535 : Int32)) + (1 : Int32))), .val (.int q2), .val (.ref b224), .val (.ref b240), .val (.int ex), .val (.ref rI)] [(.ref b224)]))
            refine Done.step (fun _ => XS.aload X285.here hx rfl (hb hby at_301) rfl rfl) ?_
            show Done _ p e below s _ _ (T285.setTop (mkF m 303 #[.val (.int aa), .val (.int bb), .val (.int pp), .val (.int qq), .val (.int fl), .val (.int (2 : Int32)), .val (.int (2 : Int32)), .val (.int c0), .val (.int c1), .val (.int d0), .val (.int d1), .val (.ref b218), .val (.ref b221), .val (.int (((pp &&& (2147483647 : Int32)) % (65535 : Int32)) + (1 : Int32))), .val (.int q2), .val (.ref b224), .val (.ref b240), .val (.int ex), .val (.ref rI)] [(.ref rI), (.ref b224)]))
            refine Done.callVP X285 hx hZ (C := "com/example/minho/minho/core/Address") hown (wAt hw 56 rfl) (wAt hw 57 rfl) (notFace_of_selects (args := #[]) (mvT hZ (wAt hw 59 rfl))) (wAt hw 59 rfl) (wAt hw 58 rfl) (wAt hw 5 rfl) (wAt hw 60 rfl) (by decide) (rmI l Z a0 hw [] b224 rI T265.heap n0 Zs265 Er265) e285 f282 (g := (mkF m 303 #[.val (.int aa), .val (.int bb), .val (.int pp), .val (.int qq), .val (.int fl), .val (.int (2 : Int32)), .val (.int (2 : Int32)), .val (.int c0), .val (.int c1), .val (.int d0), .val (.int d1), .val (.ref b218), .val (.ref b221), .val (.int (((pp &&& (2147483647 : Int32)) % (65535 : Int32)) + (1 : Int32))), .val (.int q2), .val (.ref b224), .val (.ref b240), .val (.int ex), .val (.ref rI)] [(.ref rI), (.ref b224)])) rfl (by rw [hml]; rfl) [(.ref rI)] [] 0 (lenOf pd_1 rfl) rfl rfl (by show 2 * 0 + _ ≤ _; exact Nat.le_of_eq rfl) (hb hby at_303) (by decide) (by decide) (by decide) (by decide) rfl rfl ?_
            intro T286 X286 e286
            show Done _ p e below s _ _ (T286.setTop (mkF m 306 #[.val (.int aa), .val (.int bb), .val (.int pp), .val (.int qq), .val (.int fl), .val (.int (2 : Int32)), .val (.int (2 : Int32)), .val (.int c0), .val (.int c1), .val (.int d0), .val (.int d1), .val (.ref b218), .val (.ref b221), .val (.int (((pp &&& (2147483647 : Int32)) % (65535 : Int32)) + (1 : Int32))), .val (.int q2), .val (.ref b224), .val (.ref b240), .val (.int ex), .val (.ref rI)] [(.int (0 : Int32))]))
            refine Done.step (fun _ => XS.ifNo X286.here hx rfl (hb hby at_306) rfl (XT.i0_ne_f rfl)) ?_
            show Done _ p e below s _ _ (T286.setTop (mkF m 309 #[.val (.int aa), .val (.int bb), .val (.int pp), .val (.int qq), .val (.int fl), .val (.int (2 : Int32)), .val (.int (2 : Int32)), .val (.int c0), .val (.int c1), .val (.int d0), .val (.int d1), .val (.ref b218), .val (.ref b221), .val (.int (((pp &&& (2147483647 : Int32)) % (65535 : Int32)) + (1 : Int32))), .val (.int q2), .val (.ref b224), .val (.ref b240), .val (.int ex), .val (.ref rI)] []))
            refine Done.step (fun _ => XT.iconstV X286.here hx rfl (1 : Int32) (hb hby at_309) (by decide)) ?_
            show Done _ p e below s _ _ (T286.setTop (mkF m 310 #[.val (.int aa), .val (.int bb), .val (.int pp), .val (.int qq), .val (.int fl), .val (.int (2 : Int32)), .val (.int (2 : Int32)), .val (.int c0), .val (.int c1), .val (.int d0), .val (.int d1), .val (.ref b218), .val (.ref b221), .val (.int (((pp &&& (2147483647 : Int32)) % (65535 : Int32)) + (1 : Int32))), .val (.int q2), .val (.ref b224), .val (.ref b240), .val (.int ex), .val (.ref rI)] [(.int (1 : Int32))]))
            refine Done.step (fun _ => XS.goto X286.here hx rfl (pc0 := 310) (pc' := 314) rfl (hb hby at_310) (by decide) (by decide)) ?_
            show Done _ p e below s _ _ (T286.setTop (mkF m 314 #[.val (.int aa), .val (.int bb), .val (.int pp), .val (.int qq), .val (.int fl), .val (.int (2 : Int32)), .val (.int (2 : Int32)), .val (.int c0), .val (.int c1), .val (.int d0), .val (.int d1), .val (.ref b218), .val (.ref b221), .val (.int (((pp &&& (2147483647 : Int32)) % (65535 : Int32)) + (1 : Int32))), .val (.int q2), .val (.ref b224), .val (.ref b240), .val (.int ex), .val (.ref rI)] [(.int (1 : Int32))]))
            exact Done.retN (leavesF X286 hlk (by decide) (by decide)) X286 hx (t := .boolean) hret (by simp) (hb hby at_314) ⟨rfl, N265⟩
          refine Done.step (fun _ => XS.iload X264.here hx rfl (hb hby at_208) rfl) ?_
          show Done _ p e below s _ _ (T264.setTop (mkF m 210 #[.val (.int aa), .val (.int bb), .val (.int pp), .val (.int qq), .val (.int fl), .val (.int (2 : Int32)), .val (.int (2 : Int32)), .val (.int c0), .val (.int c1), .val (.int d0), .val (.int d1), .val (.ref b218), .val (.ref b221), .val (.int (((pp &&& (2147483647 : Int32)) % (65535 : Int32)) + (1 : Int32))), .val (.int q2), .val (.ref b224), .val (.ref b240), .unset, .unset] [(.int (2 : Int32))]))
          refine Done.step (fun _ => XS.iload X264.here hx rfl (hb hby at_210) rfl) ?_
          show Done _ p e below s _ _ (T264.setTop (mkF m 212 #[.val (.int aa), .val (.int bb), .val (.int pp), .val (.int qq), .val (.int fl), .val (.int (2 : Int32)), .val (.int (2 : Int32)), .val (.int c0), .val (.int c1), .val (.int d0), .val (.int d1), .val (.ref b218), .val (.ref b221), .val (.int (((pp &&& (2147483647 : Int32)) % (65535 : Int32)) + (1 : Int32))), .val (.int q2), .val (.ref b224), .val (.ref b240), .unset, .unset] [(.int (2 : Int32)), (.int (2 : Int32))]))
          refine Done.step (fun _ => XS.icmpNo X264.here hx rfl (hb hby at_212) rfl (XT.ii_ne_f rfl)) ?_
          show Done _ p e below s _ _ (T264.setTop (mkF m 215 #[.val (.int aa), .val (.int bb), .val (.int pp), .val (.int qq), .val (.int fl), .val (.int (2 : Int32)), .val (.int (2 : Int32)), .val (.int c0), .val (.int c1), .val (.int d0), .val (.int d1), .val (.ref b218), .val (.ref b221), .val (.int (((pp &&& (2147483647 : Int32)) % (65535 : Int32)) + (1 : Int32))), .val (.int q2), .val (.ref b224), .val (.ref b240), .unset, .unset] []))
          refine Done.step (fun _ => XS.iload X264.here hx rfl (hb hby at_215) rfl) ?_
          show Done _ p e below s _ _ (T264.setTop (mkF m 217 #[.val (.int aa), .val (.int bb), .val (.int pp), .val (.int qq), .val (.int fl), .val (.int (2 : Int32)), .val (.int (2 : Int32)), .val (.int c0), .val (.int c1), .val (.int d0), .val (.int d1), .val (.ref b218), .val (.ref b221), .val (.int (((pp &&& (2147483647 : Int32)) % (65535 : Int32)) + (1 : Int32))), .val (.int q2), .val (.ref b224), .val (.ref b240), .unset, .unset] [(.int c0)]))
          refine Done.step (fun _ => XS.iload X264.here hx rfl (hb hby at_217) rfl) ?_
          show Done _ p e below s _ _ (T264.setTop (mkF m 219 #[.val (.int aa), .val (.int bb), .val (.int pp), .val (.int qq), .val (.int fl), .val (.int (2 : Int32)), .val (.int (2 : Int32)), .val (.int c0), .val (.int c1), .val (.int d0), .val (.int d1), .val (.ref b218), .val (.ref b221), .val (.int (((pp &&& (2147483647 : Int32)) % (65535 : Int32)) + (1 : Int32))), .val (.int q2), .val (.ref b224), .val (.ref b240), .unset, .unset] [(.int d0), (.int c0)]))
          by_cases hc287 : c0 = d0
          · refine Done.step (fun _ => XS.icmpNo X264.here hx rfl (hb hby at_219) rfl (XT.ii_ne_f hc287)) ?_
            show Done _ p e below s _ _ (T264.setTop (mkF m 222 #[.val (.int aa), .val (.int bb), .val (.int pp), .val (.int qq), .val (.int fl), .val (.int (2 : Int32)), .val (.int (2 : Int32)), .val (.int c0), .val (.int c1), .val (.int d0), .val (.int d1), .val (.ref b218), .val (.ref b221), .val (.int (((pp &&& (2147483647 : Int32)) % (65535 : Int32)) + (1 : Int32))), .val (.int q2), .val (.ref b224), .val (.ref b240), .unset, .unset] []))
            refine Done.step (fun _ => XS.iload X264.here hx rfl (hb hby at_222) rfl) ?_
            show Done _ p e below s _ _ (T264.setTop (mkF m 224 #[.val (.int aa), .val (.int bb), .val (.int pp), .val (.int qq), .val (.int fl), .val (.int (2 : Int32)), .val (.int (2 : Int32)), .val (.int c0), .val (.int c1), .val (.int d0), .val (.int d1), .val (.ref b218), .val (.ref b221), .val (.int (((pp &&& (2147483647 : Int32)) % (65535 : Int32)) + (1 : Int32))), .val (.int q2), .val (.ref b224), .val (.ref b240), .unset, .unset] [(.int (2 : Int32))]))
            refine Done.step (fun _ => XT.iconstV X264.here hx rfl (1 : Int32) (hb hby at_224) (by decide)) ?_
            show Done _ p e below s _ _ (T264.setTop (mkF m 225 #[.val (.int aa), .val (.int bb), .val (.int pp), .val (.int qq), .val (.int fl), .val (.int (2 : Int32)), .val (.int (2 : Int32)), .val (.int c0), .val (.int c1), .val (.int d0), .val (.int d1), .val (.ref b218), .val (.ref b221), .val (.int (((pp &&& (2147483647 : Int32)) % (65535 : Int32)) + (1 : Int32))), .val (.int q2), .val (.ref b224), .val (.ref b240), .unset, .unset] [(.int (1 : Int32)), (.int (2 : Int32))]))
            refine Done.step (fun _ => XS.icmpNo X264.here hx rfl (hb hby at_225) rfl (XT.ii_eq_f (by decide))) ?_
            show Done _ p e below s _ _ (T264.setTop (mkF m 228 #[.val (.int aa), .val (.int bb), .val (.int pp), .val (.int qq), .val (.int fl), .val (.int (2 : Int32)), .val (.int (2 : Int32)), .val (.int c0), .val (.int c1), .val (.int d0), .val (.int d1), .val (.ref b218), .val (.ref b221), .val (.int (((pp &&& (2147483647 : Int32)) % (65535 : Int32)) + (1 : Int32))), .val (.int q2), .val (.ref b224), .val (.ref b240), .unset, .unset] []))
            refine Done.step (fun _ => XS.iload X264.here hx rfl (hb hby at_228) rfl) ?_
            show Done _ p e below s _ _ (T264.setTop (mkF m 230 #[.val (.int aa), .val (.int bb), .val (.int pp), .val (.int qq), .val (.int fl), .val (.int (2 : Int32)), .val (.int (2 : Int32)), .val (.int c0), .val (.int c1), .val (.int d0), .val (.int d1), .val (.ref b218), .val (.ref b221), .val (.int (((pp &&& (2147483647 : Int32)) % (65535 : Int32)) + (1 : Int32))), .val (.int q2), .val (.ref b224), .val (.ref b240), .unset, .unset] [(.int c1)]))
            refine Done.step (fun _ => XS.iload X264.here hx rfl (hb hby at_230) rfl) ?_
            show Done _ p e below s _ _ (T264.setTop (mkF m 232 #[.val (.int aa), .val (.int bb), .val (.int pp), .val (.int qq), .val (.int fl), .val (.int (2 : Int32)), .val (.int (2 : Int32)), .val (.int c0), .val (.int c1), .val (.int d0), .val (.int d1), .val (.ref b218), .val (.ref b221), .val (.int (((pp &&& (2147483647 : Int32)) % (65535 : Int32)) + (1 : Int32))), .val (.int q2), .val (.ref b224), .val (.ref b240), .unset, .unset] [(.int d1), (.int c1)]))
            by_cases hc288 : c1 = d1
            · refine Done.step (fun _ => XS.icmpNo X264.here hx rfl (hb hby at_232) rfl (XT.ii_ne_f hc288)) ?_
              show Done _ p e below s _ _ (T264.setTop (mkF m 235 #[.val (.int aa), .val (.int bb), .val (.int pp), .val (.int qq), .val (.int fl), .val (.int (2 : Int32)), .val (.int (2 : Int32)), .val (.int c0), .val (.int c1), .val (.int d0), .val (.int d1), .val (.ref b218), .val (.ref b221), .val (.int (((pp &&& (2147483647 : Int32)) % (65535 : Int32)) + (1 : Int32))), .val (.int q2), .val (.ref b224), .val (.ref b240), .unset, .unset] []))
              refine Done.step (fun _ => XS.iload X264.here hx rfl (hb hby at_235) rfl) ?_
              show Done _ p e below s _ _ (T264.setTop (mkF m 237 #[.val (.int aa), .val (.int bb), .val (.int pp), .val (.int qq), .val (.int fl), .val (.int (2 : Int32)), .val (.int (2 : Int32)), .val (.int c0), .val (.int c1), .val (.int d0), .val (.int d1), .val (.ref b218), .val (.ref b221), .val (.int (((pp &&& (2147483647 : Int32)) % (65535 : Int32)) + (1 : Int32))), .val (.int q2), .val (.ref b224), .val (.ref b240), .unset, .unset] [(.int (((pp &&& (2147483647 : Int32)) % (65535 : Int32)) + (1 : Int32)))]))
              refine Done.step (fun _ => XS.iload X264.here hx rfl (hb hby at_237) rfl) ?_
              show Done _ p e below s _ _ (T264.setTop (mkF m 239 #[.val (.int aa), .val (.int bb), .val (.int pp), .val (.int qq), .val (.int fl), .val (.int (2 : Int32)), .val (.int (2 : Int32)), .val (.int c0), .val (.int c1), .val (.int d0), .val (.int d1), .val (.ref b218), .val (.ref b221), .val (.int (((pp &&& (2147483647 : Int32)) % (65535 : Int32)) + (1 : Int32))), .val (.int q2), .val (.ref b224), .val (.ref b240), .unset, .unset] [(.int q2), (.int (((pp &&& (2147483647 : Int32)) % (65535 : Int32)) + (1 : Int32)))]))
              by_cases hc289 : (((pp &&& (2147483647 : Int32)) % (65535 : Int32)) + (1 : Int32)) = q2
              · refine Done.step (fun _ => XS.icmpNo X264.here hx rfl (hb hby at_239) rfl (XT.ii_ne_f hc289)) ?_
                show Done _ p e below s _ _ (T264.setTop (mkF m 242 #[.val (.int aa), .val (.int bb), .val (.int pp), .val (.int qq), .val (.int fl), .val (.int (2 : Int32)), .val (.int (2 : Int32)), .val (.int c0), .val (.int c1), .val (.int d0), .val (.int d1), .val (.ref b218), .val (.ref b221), .val (.int (((pp &&& (2147483647 : Int32)) % (65535 : Int32)) + (1 : Int32))), .val (.int q2), .val (.ref b224), .val (.ref b240), .unset, .unset] []))
                refine Done.step (fun _ => XT.iconstV X264.here hx rfl (1 : Int32) (hb hby at_242) (by decide)) ?_
                show Done _ p e below s _ _ (T264.setTop (mkF m 243 #[.val (.int aa), .val (.int bb), .val (.int pp), .val (.int qq), .val (.int fl), .val (.int (2 : Int32)), .val (.int (2 : Int32)), .val (.int c0), .val (.int c1), .val (.int d0), .val (.int d1), .val (.ref b218), .val (.ref b221), .val (.int (((pp &&& (2147483647 : Int32)) % (65535 : Int32)) + (1 : Int32))), .val (.int q2), .val (.ref b224), .val (.ref b240), .unset, .unset] [(.int (1 : Int32))]))
                refine Done.step (fun _ => XS.goto X264.here hx rfl (pc0 := 243) (pc' := 247) rfl (hb hby at_243) (by decide) (by decide)) ?_
                show Done _ p e below s _ _ (T264.setTop (mkF m 247 #[.val (.int aa), .val (.int bb), .val (.int pp), .val (.int qq), .val (.int fl), .val (.int (2 : Int32)), .val (.int (2 : Int32)), .val (.int c0), .val (.int c1), .val (.int d0), .val (.int d1), .val (.ref b218), .val (.ref b221), .val (.int (((pp &&& (2147483647 : Int32)) % (65535 : Int32)) + (1 : Int32))), .val (.int q2), .val (.ref b224), .val (.ref b240), .unset, .unset] [(.int (1 : Int32))]))
                refine Done.step (fun _ => XS.istore X264.here hx rfl (hb hby at_247) rfl (l' := #[.val (.int aa), .val (.int bb), .val (.int pp), .val (.int qq), .val (.int fl), .val (.int (2 : Int32)), .val (.int (2 : Int32)), .val (.int c0), .val (.int c1), .val (.int d0), .val (.int d1), .val (.ref b218), .val (.ref b221), .val (.int (((pp &&& (2147483647 : Int32)) % (65535 : Int32)) + (1 : Int32))), .val (.int q2), .val (.ref b224), .val (.ref b240), .val (.int (1 : Int32)), .unset]) rfl) ?_
                show Done _ p e below s _ _ (T264.setTop (mkF m 249 #[.val (.int aa), .val (.int bb), .val (.int pp), .val (.int qq), .val (.int fl), .val (.int (2 : Int32)), .val (.int (2 : Int32)), .val (.int c0), .val (.int c1), .val (.int d0), .val (.int d1), .val (.ref b218), .val (.ref b221), .val (.int (((pp &&& (2147483647 : Int32)) % (65535 : Int32)) + (1 : Int32))), .val (.int q2), .val (.ref b224), .val (.ref b240), .val (.int (1 : Int32)), .unset] []))
                exact K249 (1 : Int32) (bP_t ⟨((own_l2 c0 c1 d0 d1).mpr ⟨hc287, hc288⟩), hc289.symm⟩).symm
              · refine Done.step (fun _ => XS.icmpYes X264.here hx rfl (pc0 := 239) (pc' := 246) rfl (hb hby at_239) rfl (XT.ii_ne_t hc289) (by decide) (by decide)) ?_
                show Done _ p e below s _ _ (T264.setTop (mkF m 246 #[.val (.int aa), .val (.int bb), .val (.int pp), .val (.int qq), .val (.int fl), .val (.int (2 : Int32)), .val (.int (2 : Int32)), .val (.int c0), .val (.int c1), .val (.int d0), .val (.int d1), .val (.ref b218), .val (.ref b221), .val (.int (((pp &&& (2147483647 : Int32)) % (65535 : Int32)) + (1 : Int32))), .val (.int q2), .val (.ref b224), .val (.ref b240), .unset, .unset] []))
                refine Done.step (fun _ => XT.iconstV X264.here hx rfl (0 : Int32) (hb hby at_246) (by decide)) ?_
                show Done _ p e below s _ _ (T264.setTop (mkF m 247 #[.val (.int aa), .val (.int bb), .val (.int pp), .val (.int qq), .val (.int fl), .val (.int (2 : Int32)), .val (.int (2 : Int32)), .val (.int c0), .val (.int c1), .val (.int d0), .val (.int d1), .val (.ref b218), .val (.ref b221), .val (.int (((pp &&& (2147483647 : Int32)) % (65535 : Int32)) + (1 : Int32))), .val (.int q2), .val (.ref b224), .val (.ref b240), .unset, .unset] [(.int (0 : Int32))]))
                refine Done.step (fun _ => XS.istore X264.here hx rfl (hb hby at_247) rfl (l' := #[.val (.int aa), .val (.int bb), .val (.int pp), .val (.int qq), .val (.int fl), .val (.int (2 : Int32)), .val (.int (2 : Int32)), .val (.int c0), .val (.int c1), .val (.int d0), .val (.int d1), .val (.ref b218), .val (.ref b221), .val (.int (((pp &&& (2147483647 : Int32)) % (65535 : Int32)) + (1 : Int32))), .val (.int q2), .val (.ref b224), .val (.ref b240), .val (.int (0 : Int32)), .unset]) rfl) ?_
                show Done _ p e below s _ _ (T264.setTop (mkF m 249 #[.val (.int aa), .val (.int bb), .val (.int pp), .val (.int qq), .val (.int fl), .val (.int (2 : Int32)), .val (.int (2 : Int32)), .val (.int c0), .val (.int c1), .val (.int d0), .val (.int d1), .val (.ref b218), .val (.ref b221), .val (.int (((pp &&& (2147483647 : Int32)) % (65535 : Int32)) + (1 : Int32))), .val (.int q2), .val (.ref b224), .val (.ref b240), .val (.int (0 : Int32)), .unset] []))
                exact K249 (0 : Int32) (bP_f (fun q => hc289 q.2.symm)).symm
            · refine Done.step (fun _ => XS.icmpYes X264.here hx rfl (pc0 := 232) (pc' := 246) rfl (hb hby at_232) rfl (XT.ii_ne_t hc288) (by decide) (by decide)) ?_
              show Done _ p e below s _ _ (T264.setTop (mkF m 246 #[.val (.int aa), .val (.int bb), .val (.int pp), .val (.int qq), .val (.int fl), .val (.int (2 : Int32)), .val (.int (2 : Int32)), .val (.int c0), .val (.int c1), .val (.int d0), .val (.int d1), .val (.ref b218), .val (.ref b221), .val (.int (((pp &&& (2147483647 : Int32)) % (65535 : Int32)) + (1 : Int32))), .val (.int q2), .val (.ref b224), .val (.ref b240), .unset, .unset] []))
              refine Done.step (fun _ => XT.iconstV X264.here hx rfl (0 : Int32) (hb hby at_246) (by decide)) ?_
              show Done _ p e below s _ _ (T264.setTop (mkF m 247 #[.val (.int aa), .val (.int bb), .val (.int pp), .val (.int qq), .val (.int fl), .val (.int (2 : Int32)), .val (.int (2 : Int32)), .val (.int c0), .val (.int c1), .val (.int d0), .val (.int d1), .val (.ref b218), .val (.ref b221), .val (.int (((pp &&& (2147483647 : Int32)) % (65535 : Int32)) + (1 : Int32))), .val (.int q2), .val (.ref b224), .val (.ref b240), .unset, .unset] [(.int (0 : Int32))]))
              refine Done.step (fun _ => XS.istore X264.here hx rfl (hb hby at_247) rfl (l' := #[.val (.int aa), .val (.int bb), .val (.int pp), .val (.int qq), .val (.int fl), .val (.int (2 : Int32)), .val (.int (2 : Int32)), .val (.int c0), .val (.int c1), .val (.int d0), .val (.int d1), .val (.ref b218), .val (.ref b221), .val (.int (((pp &&& (2147483647 : Int32)) % (65535 : Int32)) + (1 : Int32))), .val (.int q2), .val (.ref b224), .val (.ref b240), .val (.int (0 : Int32)), .unset]) rfl) ?_
              show Done _ p e below s _ _ (T264.setTop (mkF m 249 #[.val (.int aa), .val (.int bb), .val (.int pp), .val (.int qq), .val (.int fl), .val (.int (2 : Int32)), .val (.int (2 : Int32)), .val (.int c0), .val (.int c1), .val (.int d0), .val (.int d1), .val (.ref b218), .val (.ref b221), .val (.int (((pp &&& (2147483647 : Int32)) % (65535 : Int32)) + (1 : Int32))), .val (.int q2), .val (.ref b224), .val (.ref b240), .val (.int (0 : Int32)), .unset] []))
              exact K249 (0 : Int32) (bP_f (fun q => hc288 ((own_l2 c0 c1 d0 d1).mp q.1).2)).symm
          · refine Done.step (fun _ => XS.icmpYes X264.here hx rfl (pc0 := 219) (pc' := 246) rfl (hb hby at_219) rfl (XT.ii_ne_t hc287) (by decide) (by decide)) ?_
            show Done _ p e below s _ _ (T264.setTop (mkF m 246 #[.val (.int aa), .val (.int bb), .val (.int pp), .val (.int qq), .val (.int fl), .val (.int (2 : Int32)), .val (.int (2 : Int32)), .val (.int c0), .val (.int c1), .val (.int d0), .val (.int d1), .val (.ref b218), .val (.ref b221), .val (.int (((pp &&& (2147483647 : Int32)) % (65535 : Int32)) + (1 : Int32))), .val (.int q2), .val (.ref b224), .val (.ref b240), .unset, .unset] []))
            refine Done.step (fun _ => XT.iconstV X264.here hx rfl (0 : Int32) (hb hby at_246) (by decide)) ?_
            show Done _ p e below s _ _ (T264.setTop (mkF m 247 #[.val (.int aa), .val (.int bb), .val (.int pp), .val (.int qq), .val (.int fl), .val (.int (2 : Int32)), .val (.int (2 : Int32)), .val (.int c0), .val (.int c1), .val (.int d0), .val (.int d1), .val (.ref b218), .val (.ref b221), .val (.int (((pp &&& (2147483647 : Int32)) % (65535 : Int32)) + (1 : Int32))), .val (.int q2), .val (.ref b224), .val (.ref b240), .unset, .unset] [(.int (0 : Int32))]))
            refine Done.step (fun _ => XS.istore X264.here hx rfl (hb hby at_247) rfl (l' := #[.val (.int aa), .val (.int bb), .val (.int pp), .val (.int qq), .val (.int fl), .val (.int (2 : Int32)), .val (.int (2 : Int32)), .val (.int c0), .val (.int c1), .val (.int d0), .val (.int d1), .val (.ref b218), .val (.ref b221), .val (.int (((pp &&& (2147483647 : Int32)) % (65535 : Int32)) + (1 : Int32))), .val (.int q2), .val (.ref b224), .val (.ref b240), .val (.int (0 : Int32)), .unset]) rfl) ?_
            show Done _ p e below s _ _ (T264.setTop (mkF m 249 #[.val (.int aa), .val (.int bb), .val (.int pp), .val (.int qq), .val (.int fl), .val (.int (2 : Int32)), .val (.int (2 : Int32)), .val (.int c0), .val (.int c1), .val (.int d0), .val (.int d1), .val (.ref b218), .val (.ref b221), .val (.int (((pp &&& (2147483647 : Int32)) % (65535 : Int32)) + (1 : Int32))), .val (.int q2), .val (.ref b224), .val (.ref b240), .val (.int (0 : Int32)), .unset] []))
            exact K249 (0 : Int32) (bP_f (fun q => hc287 ((own_l2 c0 c1 d0 d1).mp q.1).1)).symm
        refine Done.step (fun _ => XS.iload X223.here hx rfl (hb hby at_143) rfl) ?_
        show Done _ p e below s _ _ (T223.setTop (mkF m 145 #[.val (.int aa), .val (.int bb), .val (.int pp), .val (.int qq), .val (.int fl), .val (.int (2 : Int32)), .val (.int (2 : Int32)), .val (.int c0), .val (.int c1), .val (.int d0), .val (.int d1), .val (.ref b218), .val (.ref b221), .val (.int (((pp &&& (2147483647 : Int32)) % (65535 : Int32)) + (1 : Int32))), .unset, .unset, .unset, .unset, .unset] [(.int fl)]))
        refine Done.step (fun _ => XT.iconstV X223.here hx rfl (4 : Int32) (hb hby at_145) (by decide)) ?_
        show Done _ p e below s _ _ (T223.setTop (mkF m 146 #[.val (.int aa), .val (.int bb), .val (.int pp), .val (.int qq), .val (.int fl), .val (.int (2 : Int32)), .val (.int (2 : Int32)), .val (.int c0), .val (.int c1), .val (.int d0), .val (.int d1), .val (.ref b218), .val (.ref b221), .val (.int (((pp &&& (2147483647 : Int32)) % (65535 : Int32)) + (1 : Int32))), .unset, .unset, .unset, .unset, .unset] [(.int (4 : Int32)), (.int fl)]))
        refine Done.step (fun _ => XT.iushr X223.here hx rfl (hb hby at_146) rfl) ?_
        show Done _ p e below s _ _ (T223.setTop (mkF m 147 #[.val (.int aa), .val (.int bb), .val (.int pp), .val (.int qq), .val (.int fl), .val (.int (2 : Int32)), .val (.int (2 : Int32)), .val (.int c0), .val (.int c1), .val (.int d0), .val (.int d1), .val (.ref b218), .val (.ref b221), .val (.int (((pp &&& (2147483647 : Int32)) % (65535 : Int32)) + (1 : Int32))), .unset, .unset, .unset, .unset, .unset] [(.int ((fl.toUInt32 >>> ((4 : Int32) &&& 31).toUInt32).toInt32))]))
        refine Done.step (fun _ => XT.iconstV X223.here hx rfl (1 : Int32) (hb hby at_147) (by decide)) ?_
        show Done _ p e below s _ _ (T223.setTop (mkF m 148 #[.val (.int aa), .val (.int bb), .val (.int pp), .val (.int qq), .val (.int fl), .val (.int (2 : Int32)), .val (.int (2 : Int32)), .val (.int c0), .val (.int c1), .val (.int d0), .val (.int d1), .val (.ref b218), .val (.ref b221), .val (.int (((pp &&& (2147483647 : Int32)) % (65535 : Int32)) + (1 : Int32))), .unset, .unset, .unset, .unset, .unset] [(.int (1 : Int32)), (.int ((fl.toUInt32 >>> ((4 : Int32) &&& 31).toUInt32).toInt32))]))
        refine Done.step (fun _ => XS.iand X223.here hx rfl (hb hby at_148) rfl) ?_
        show Done _ p e below s _ _ (T223.setTop (mkF m 149 #[.val (.int aa), .val (.int bb), .val (.int pp), .val (.int qq), .val (.int fl), .val (.int (2 : Int32)), .val (.int (2 : Int32)), .val (.int c0), .val (.int c1), .val (.int d0), .val (.int d1), .val (.ref b218), .val (.ref b221), .val (.int (((pp &&& (2147483647 : Int32)) % (65535 : Int32)) + (1 : Int32))), .unset, .unset, .unset, .unset, .unset] [(.int (((fl.toUInt32 >>> ((4 : Int32) &&& 31).toUInt32).toInt32) &&& (1 : Int32)))]))
        by_cases hc290 : (((fl.toUInt32 >>> ((4 : Int32) &&& 31).toUInt32).toInt32) &&& (1 : Int32)) = (0 : Int32)
        · refine Done.step (fun _ => XS.ifYes X223.here hx rfl (pc0 := 149) (pc' := 157) rfl (hb hby at_149) rfl (XT.i0_eq_t hc290) (by decide) (by decide)) ?_
          show Done _ p e below s _ _ (T223.setTop (mkF m 157 #[.val (.int aa), .val (.int bb), .val (.int pp), .val (.int qq), .val (.int fl), .val (.int (2 : Int32)), .val (.int (2 : Int32)), .val (.int c0), .val (.int c1), .val (.int d0), .val (.int d1), .val (.ref b218), .val (.ref b221), .val (.int (((pp &&& (2147483647 : Int32)) % (65535 : Int32)) + (1 : Int32))), .unset, .unset, .unset, .unset, .unset] []))
          refine Done.step (fun _ => XS.iloadN X223.here hx rfl (hb hby at_157) rfl) ?_
          show Done _ p e below s _ _ (T223.setTop (mkF m 158 #[.val (.int aa), .val (.int bb), .val (.int pp), .val (.int qq), .val (.int fl), .val (.int (2 : Int32)), .val (.int (2 : Int32)), .val (.int c0), .val (.int c1), .val (.int d0), .val (.int d1), .val (.ref b218), .val (.ref b221), .val (.int (((pp &&& (2147483647 : Int32)) % (65535 : Int32)) + (1 : Int32))), .unset, .unset, .unset, .unset, .unset] [(.int qq)]))
          refine Done.step (fun _ => Stand.ldcI X223 hx hown (mvT hZ (wAt hw 1 rfl)) (g := (mkF m 158 #[.val (.int aa), .val (.int bb), .val (.int pp), .val (.int qq), .val (.int fl), .val (.int (2 : Int32)), .val (.int (2 : Int32)), .val (.int c0), .val (.int c1), .val (.int d0), .val (.int d1), .val (.ref b218), .val (.ref b221), .val (.int (((pp &&& (2147483647 : Int32)) % (65535 : Int32)) + (1 : Int32))), .unset, .unset, .unset, .unset, .unset] [(.int qq)])) rfl (hb hby at_158)) ?_
          show Done _ p e below s _ _ (T223.setTop (mkF m 160 #[.val (.int aa), .val (.int bb), .val (.int pp), .val (.int qq), .val (.int fl), .val (.int (2 : Int32)), .val (.int (2 : Int32)), .val (.int c0), .val (.int c1), .val (.int d0), .val (.int d1), .val (.ref b218), .val (.ref b221), .val (.int (((pp &&& (2147483647 : Int32)) % (65535 : Int32)) + (1 : Int32))), .unset, .unset, .unset, .unset, .unset] [(.int (2147483647 : Int32)), (.int qq)]))
          refine Done.step (fun _ => XS.iand X223.here hx rfl (hb hby at_160) rfl) ?_
          show Done _ p e below s _ _ (T223.setTop (mkF m 161 #[.val (.int aa), .val (.int bb), .val (.int pp), .val (.int qq), .val (.int fl), .val (.int (2 : Int32)), .val (.int (2 : Int32)), .val (.int c0), .val (.int c1), .val (.int d0), .val (.int d1), .val (.ref b218), .val (.ref b221), .val (.int (((pp &&& (2147483647 : Int32)) % (65535 : Int32)) + (1 : Int32))), .unset, .unset, .unset, .unset, .unset] [(.int (qq &&& (2147483647 : Int32)))]))
          refine Done.step (fun _ => Stand.ldcI X223 hx hown (mvT hZ (wAt hw 2 rfl)) (g := (mkF m 161 #[.val (.int aa), .val (.int bb), .val (.int pp), .val (.int qq), .val (.int fl), .val (.int (2 : Int32)), .val (.int (2 : Int32)), .val (.int c0), .val (.int c1), .val (.int d0), .val (.int d1), .val (.ref b218), .val (.ref b221), .val (.int (((pp &&& (2147483647 : Int32)) % (65535 : Int32)) + (1 : Int32))), .unset, .unset, .unset, .unset, .unset] [(.int (qq &&& (2147483647 : Int32)))])) rfl (hb hby at_161)) ?_
          show Done _ p e below s _ _ (T223.setTop (mkF m 163 #[.val (.int aa), .val (.int bb), .val (.int pp), .val (.int qq), .val (.int fl), .val (.int (2 : Int32)), .val (.int (2 : Int32)), .val (.int c0), .val (.int c1), .val (.int d0), .val (.int d1), .val (.ref b218), .val (.ref b221), .val (.int (((pp &&& (2147483647 : Int32)) % (65535 : Int32)) + (1 : Int32))), .unset, .unset, .unset, .unset, .unset] [(.int (65535 : Int32)), (.int (qq &&& (2147483647 : Int32)))]))
          refine Done.step (fun _ => iremM X223 hx rfl (hb hby at_163) rfl (by decide)) ?_
          show Done _ p e below s _ _ (T223.setTop (mkF m 164 #[.val (.int aa), .val (.int bb), .val (.int pp), .val (.int qq), .val (.int fl), .val (.int (2 : Int32)), .val (.int (2 : Int32)), .val (.int c0), .val (.int c1), .val (.int d0), .val (.int d1), .val (.ref b218), .val (.ref b221), .val (.int (((pp &&& (2147483647 : Int32)) % (65535 : Int32)) + (1 : Int32))), .unset, .unset, .unset, .unset, .unset] [(.int ((qq &&& (2147483647 : Int32)) % (65535 : Int32)))]))
          refine Done.step (fun _ => XT.iconstV X223.here hx rfl (1 : Int32) (hb hby at_164) (by decide)) ?_
          show Done _ p e below s _ _ (T223.setTop (mkF m 165 #[.val (.int aa), .val (.int bb), .val (.int pp), .val (.int qq), .val (.int fl), .val (.int (2 : Int32)), .val (.int (2 : Int32)), .val (.int c0), .val (.int c1), .val (.int d0), .val (.int d1), .val (.ref b218), .val (.ref b221), .val (.int (((pp &&& (2147483647 : Int32)) % (65535 : Int32)) + (1 : Int32))), .unset, .unset, .unset, .unset, .unset] [(.int (1 : Int32)), (.int ((qq &&& (2147483647 : Int32)) % (65535 : Int32)))]))
          refine Done.step (fun _ => XS.iadd X223.here hx rfl (hb hby at_165) rfl) ?_
          show Done _ p e below s _ _ (T223.setTop (mkF m 166 #[.val (.int aa), .val (.int bb), .val (.int pp), .val (.int qq), .val (.int fl), .val (.int (2 : Int32)), .val (.int (2 : Int32)), .val (.int c0), .val (.int c1), .val (.int d0), .val (.int d1), .val (.ref b218), .val (.ref b221), .val (.int (((pp &&& (2147483647 : Int32)) % (65535 : Int32)) + (1 : Int32))), .unset, .unset, .unset, .unset, .unset] [(.int (((qq &&& (2147483647 : Int32)) % (65535 : Int32)) + (1 : Int32)))]))
          refine Done.step (fun _ => XS.istore X223.here hx rfl (hb hby at_166) rfl (l' := #[.val (.int aa), .val (.int bb), .val (.int pp), .val (.int qq), .val (.int fl), .val (.int (2 : Int32)), .val (.int (2 : Int32)), .val (.int c0), .val (.int c1), .val (.int d0), .val (.int d1), .val (.ref b218), .val (.ref b221), .val (.int (((pp &&& (2147483647 : Int32)) % (65535 : Int32)) + (1 : Int32))), .val (.int (((qq &&& (2147483647 : Int32)) % (65535 : Int32)) + (1 : Int32))), .unset, .unset, .unset, .unset]) rfl) ?_
          show Done _ p e below s _ _ (T223.setTop (mkF m 168 #[.val (.int aa), .val (.int bb), .val (.int pp), .val (.int qq), .val (.int fl), .val (.int (2 : Int32)), .val (.int (2 : Int32)), .val (.int c0), .val (.int c1), .val (.int d0), .val (.int d1), .val (.ref b218), .val (.ref b221), .val (.int (((pp &&& (2147483647 : Int32)) % (65535 : Int32)) + (1 : Int32))), .val (.int (((qq &&& (2147483647 : Int32)) % (65535 : Int32)) + (1 : Int32))), .unset, .unset, .unset, .unset] []))
          exact K168 (((qq &&& (2147483647 : Int32)) % (65535 : Int32)) + (1 : Int32)) (own_port _).1 (own_port _).2
        · refine Done.step (fun _ => XS.ifNo X223.here hx rfl (hb hby at_149) rfl (XT.i0_eq_f hc290)) ?_
          show Done _ p e below s _ _ (T223.setTop (mkF m 152 #[.val (.int aa), .val (.int bb), .val (.int pp), .val (.int qq), .val (.int fl), .val (.int (2 : Int32)), .val (.int (2 : Int32)), .val (.int c0), .val (.int c1), .val (.int d0), .val (.int d1), .val (.ref b218), .val (.ref b221), .val (.int (((pp &&& (2147483647 : Int32)) % (65535 : Int32)) + (1 : Int32))), .unset, .unset, .unset, .unset, .unset] []))
          refine Done.step (fun _ => XS.iload X223.here hx rfl (hb hby at_152) rfl) ?_
          show Done _ p e below s _ _ (T223.setTop (mkF m 154 #[.val (.int aa), .val (.int bb), .val (.int pp), .val (.int qq), .val (.int fl), .val (.int (2 : Int32)), .val (.int (2 : Int32)), .val (.int c0), .val (.int c1), .val (.int d0), .val (.int d1), .val (.ref b218), .val (.ref b221), .val (.int (((pp &&& (2147483647 : Int32)) % (65535 : Int32)) + (1 : Int32))), .unset, .unset, .unset, .unset, .unset] [(.int (((pp &&& (2147483647 : Int32)) % (65535 : Int32)) + (1 : Int32)))]))
          refine Done.step (fun _ => XS.goto X223.here hx rfl (pc0 := 154) (pc' := 166) rfl (hb hby at_154) (by decide) (by decide)) ?_
          show Done _ p e below s _ _ (T223.setTop (mkF m 166 #[.val (.int aa), .val (.int bb), .val (.int pp), .val (.int qq), .val (.int fl), .val (.int (2 : Int32)), .val (.int (2 : Int32)), .val (.int c0), .val (.int c1), .val (.int d0), .val (.int d1), .val (.ref b218), .val (.ref b221), .val (.int (((pp &&& (2147483647 : Int32)) % (65535 : Int32)) + (1 : Int32))), .unset, .unset, .unset, .unset, .unset] [(.int (((pp &&& (2147483647 : Int32)) % (65535 : Int32)) + (1 : Int32)))]))
          refine Done.step (fun _ => XS.istore X223.here hx rfl (hb hby at_166) rfl (l' := #[.val (.int aa), .val (.int bb), .val (.int pp), .val (.int qq), .val (.int fl), .val (.int (2 : Int32)), .val (.int (2 : Int32)), .val (.int c0), .val (.int c1), .val (.int d0), .val (.int d1), .val (.ref b218), .val (.ref b221), .val (.int (((pp &&& (2147483647 : Int32)) % (65535 : Int32)) + (1 : Int32))), .val (.int (((pp &&& (2147483647 : Int32)) % (65535 : Int32)) + (1 : Int32))), .unset, .unset, .unset, .unset]) rfl) ?_
          show Done _ p e below s _ _ (T223.setTop (mkF m 168 #[.val (.int aa), .val (.int bb), .val (.int pp), .val (.int qq), .val (.int fl), .val (.int (2 : Int32)), .val (.int (2 : Int32)), .val (.int c0), .val (.int c1), .val (.int d0), .val (.int d1), .val (.ref b218), .val (.ref b221), .val (.int (((pp &&& (2147483647 : Int32)) % (65535 : Int32)) + (1 : Int32))), .val (.int (((pp &&& (2147483647 : Int32)) % (65535 : Int32)) + (1 : Int32))), .unset, .unset, .unset, .unset] []))
          exact K168 (((pp &&& (2147483647 : Int32)) % (65535 : Int32)) + (1 : Int32)) (own_port _).1 (own_port _).2
      refine Done.step (fun _ => XS.iload X0.here hx rfl (hb hby at_37) rfl) ?_
      show Done _ p e below s _ _ (T0.setTop (mkF m 39 #[.val (.int aa), .val (.int bb), .val (.int pp), .val (.int qq), .val (.int fl), .val (.int (2 : Int32)), .val (.int (2 : Int32)), .val (.int ((aa &&& (255 : Int32)).toUInt32.toUInt16.toUInt32.toInt32)), .val (.int ((((aa.toUInt32 >>> ((8 : Int32) &&& 31).toUInt32).toInt32) &&& (255 : Int32)).toUInt32.toUInt16.toUInt32.toInt32)), .unset, .unset, .unset, .unset, .unset, .unset, .unset, .unset, .unset, .unset] [(.int fl)]))
      refine Done.step (fun _ => XT.iconstV X0.here hx rfl (2 : Int32) (hb hby at_39) (by decide)) ?_
      show Done _ p e below s _ _ (T0.setTop (mkF m 40 #[.val (.int aa), .val (.int bb), .val (.int pp), .val (.int qq), .val (.int fl), .val (.int (2 : Int32)), .val (.int (2 : Int32)), .val (.int ((aa &&& (255 : Int32)).toUInt32.toUInt16.toUInt32.toInt32)), .val (.int ((((aa.toUInt32 >>> ((8 : Int32) &&& 31).toUInt32).toInt32) &&& (255 : Int32)).toUInt32.toUInt16.toUInt32.toInt32)), .unset, .unset, .unset, .unset, .unset, .unset, .unset, .unset, .unset, .unset] [(.int (2 : Int32)), (.int fl)]))
      refine Done.step (fun _ => XT.iushr X0.here hx rfl (hb hby at_40) rfl) ?_
      show Done _ p e below s _ _ (T0.setTop (mkF m 41 #[.val (.int aa), .val (.int bb), .val (.int pp), .val (.int qq), .val (.int fl), .val (.int (2 : Int32)), .val (.int (2 : Int32)), .val (.int ((aa &&& (255 : Int32)).toUInt32.toUInt16.toUInt32.toInt32)), .val (.int ((((aa.toUInt32 >>> ((8 : Int32) &&& 31).toUInt32).toInt32) &&& (255 : Int32)).toUInt32.toUInt16.toUInt32.toInt32)), .unset, .unset, .unset, .unset, .unset, .unset, .unset, .unset, .unset, .unset] [(.int ((fl.toUInt32 >>> ((2 : Int32) &&& 31).toUInt32).toInt32))]))
      refine Done.step (fun _ => XT.iconstV X0.here hx rfl (1 : Int32) (hb hby at_41) (by decide)) ?_
      show Done _ p e below s _ _ (T0.setTop (mkF m 42 #[.val (.int aa), .val (.int bb), .val (.int pp), .val (.int qq), .val (.int fl), .val (.int (2 : Int32)), .val (.int (2 : Int32)), .val (.int ((aa &&& (255 : Int32)).toUInt32.toUInt16.toUInt32.toInt32)), .val (.int ((((aa.toUInt32 >>> ((8 : Int32) &&& 31).toUInt32).toInt32) &&& (255 : Int32)).toUInt32.toUInt16.toUInt32.toInt32)), .unset, .unset, .unset, .unset, .unset, .unset, .unset, .unset, .unset, .unset] [(.int (1 : Int32)), (.int ((fl.toUInt32 >>> ((2 : Int32) &&& 31).toUInt32).toInt32))]))
      refine Done.step (fun _ => XS.iand X0.here hx rfl (hb hby at_42) rfl) ?_
      show Done _ p e below s _ _ (T0.setTop (mkF m 43 #[.val (.int aa), .val (.int bb), .val (.int pp), .val (.int qq), .val (.int fl), .val (.int (2 : Int32)), .val (.int (2 : Int32)), .val (.int ((aa &&& (255 : Int32)).toUInt32.toUInt16.toUInt32.toInt32)), .val (.int ((((aa.toUInt32 >>> ((8 : Int32) &&& 31).toUInt32).toInt32) &&& (255 : Int32)).toUInt32.toUInt16.toUInt32.toInt32)), .unset, .unset, .unset, .unset, .unset, .unset, .unset, .unset, .unset, .unset] [(.int (((fl.toUInt32 >>> ((2 : Int32) &&& 31).toUInt32).toInt32) &&& (1 : Int32)))]))
      by_cases hc291 : (((fl.toUInt32 >>> ((2 : Int32) &&& 31).toUInt32).toInt32) &&& (1 : Int32)) = (0 : Int32)
      · refine Done.step (fun _ => XS.ifYes X0.here hx rfl (pc0 := 43) (pc' := 51) rfl (hb hby at_43) rfl (XT.i0_eq_t hc291) (by decide) (by decide)) ?_
        show Done _ p e below s _ _ (T0.setTop (mkF m 51 #[.val (.int aa), .val (.int bb), .val (.int pp), .val (.int qq), .val (.int fl), .val (.int (2 : Int32)), .val (.int (2 : Int32)), .val (.int ((aa &&& (255 : Int32)).toUInt32.toUInt16.toUInt32.toInt32)), .val (.int ((((aa.toUInt32 >>> ((8 : Int32) &&& 31).toUInt32).toInt32) &&& (255 : Int32)).toUInt32.toUInt16.toUInt32.toInt32)), .unset, .unset, .unset, .unset, .unset, .unset, .unset, .unset, .unset, .unset] []))
        refine Done.step (fun _ => XS.iloadN X0.here hx rfl (hb hby at_51) rfl) ?_
        show Done _ p e below s _ _ (T0.setTop (mkF m 52 #[.val (.int aa), .val (.int bb), .val (.int pp), .val (.int qq), .val (.int fl), .val (.int (2 : Int32)), .val (.int (2 : Int32)), .val (.int ((aa &&& (255 : Int32)).toUInt32.toUInt16.toUInt32.toInt32)), .val (.int ((((aa.toUInt32 >>> ((8 : Int32) &&& 31).toUInt32).toInt32) &&& (255 : Int32)).toUInt32.toUInt16.toUInt32.toInt32)), .unset, .unset, .unset, .unset, .unset, .unset, .unset, .unset, .unset, .unset] [(.int bb)]))
        refine Done.step (fun _ => XT.sipushV X0.here hx rfl (255 : Int32) (hb hby at_52) (by decide)) ?_
        show Done _ p e below s _ _ (T0.setTop (mkF m 55 #[.val (.int aa), .val (.int bb), .val (.int pp), .val (.int qq), .val (.int fl), .val (.int (2 : Int32)), .val (.int (2 : Int32)), .val (.int ((aa &&& (255 : Int32)).toUInt32.toUInt16.toUInt32.toInt32)), .val (.int ((((aa.toUInt32 >>> ((8 : Int32) &&& 31).toUInt32).toInt32) &&& (255 : Int32)).toUInt32.toUInt16.toUInt32.toInt32)), .unset, .unset, .unset, .unset, .unset, .unset, .unset, .unset, .unset, .unset] [(.int (255 : Int32)), (.int bb)]))
        refine Done.step (fun _ => XS.iand X0.here hx rfl (hb hby at_55) rfl) ?_
        show Done _ p e below s _ _ (T0.setTop (mkF m 56 #[.val (.int aa), .val (.int bb), .val (.int pp), .val (.int qq), .val (.int fl), .val (.int (2 : Int32)), .val (.int (2 : Int32)), .val (.int ((aa &&& (255 : Int32)).toUInt32.toUInt16.toUInt32.toInt32)), .val (.int ((((aa.toUInt32 >>> ((8 : Int32) &&& 31).toUInt32).toInt32) &&& (255 : Int32)).toUInt32.toUInt16.toUInt32.toInt32)), .unset, .unset, .unset, .unset, .unset, .unset, .unset, .unset, .unset, .unset] [(.int (bb &&& (255 : Int32)))]))
        refine Done.step (fun _ => XT.i2c X0.here hx rfl (hb hby at_56) rfl) ?_
        show Done _ p e below s _ _ (T0.setTop (mkF m 57 #[.val (.int aa), .val (.int bb), .val (.int pp), .val (.int qq), .val (.int fl), .val (.int (2 : Int32)), .val (.int (2 : Int32)), .val (.int ((aa &&& (255 : Int32)).toUInt32.toUInt16.toUInt32.toInt32)), .val (.int ((((aa.toUInt32 >>> ((8 : Int32) &&& 31).toUInt32).toInt32) &&& (255 : Int32)).toUInt32.toUInt16.toUInt32.toInt32)), .unset, .unset, .unset, .unset, .unset, .unset, .unset, .unset, .unset, .unset] [(.int ((bb &&& (255 : Int32)).toUInt32.toUInt16.toUInt32.toInt32))]))
        refine Done.step (fun _ => XS.istore X0.here hx rfl (hb hby at_57) rfl (l' := #[.val (.int aa), .val (.int bb), .val (.int pp), .val (.int qq), .val (.int fl), .val (.int (2 : Int32)), .val (.int (2 : Int32)), .val (.int ((aa &&& (255 : Int32)).toUInt32.toUInt16.toUInt32.toInt32)), .val (.int ((((aa.toUInt32 >>> ((8 : Int32) &&& 31).toUInt32).toInt32) &&& (255 : Int32)).toUInt32.toUInt16.toUInt32.toInt32)), .val (.int ((bb &&& (255 : Int32)).toUInt32.toUInt16.toUInt32.toInt32)), .unset, .unset, .unset, .unset, .unset, .unset, .unset, .unset, .unset]) rfl) ?_
        show Done _ p e below s _ _ (T0.setTop (mkF m 59 #[.val (.int aa), .val (.int bb), .val (.int pp), .val (.int qq), .val (.int fl), .val (.int (2 : Int32)), .val (.int (2 : Int32)), .val (.int ((aa &&& (255 : Int32)).toUInt32.toUInt16.toUInt32.toInt32)), .val (.int ((((aa.toUInt32 >>> ((8 : Int32) &&& 31).toUInt32).toInt32) &&& (255 : Int32)).toUInt32.toUInt16.toUInt32.toInt32)), .val (.int ((bb &&& (255 : Int32)).toUInt32.toUInt16.toUInt32.toInt32)), .unset, .unset, .unset, .unset, .unset, .unset, .unset, .unset, .unset] []))
        refine Done.step (fun _ => XS.iload X0.here hx rfl (hb hby at_59) rfl) ?_
        show Done _ p e below s _ _ (T0.setTop (mkF m 61 #[.val (.int aa), .val (.int bb), .val (.int pp), .val (.int qq), .val (.int fl), .val (.int (2 : Int32)), .val (.int (2 : Int32)), .val (.int ((aa &&& (255 : Int32)).toUInt32.toUInt16.toUInt32.toInt32)), .val (.int ((((aa.toUInt32 >>> ((8 : Int32) &&& 31).toUInt32).toInt32) &&& (255 : Int32)).toUInt32.toUInt16.toUInt32.toInt32)), .val (.int ((bb &&& (255 : Int32)).toUInt32.toUInt16.toUInt32.toInt32)), .unset, .unset, .unset, .unset, .unset, .unset, .unset, .unset, .unset] [(.int fl)]))
        refine Done.step (fun _ => XT.iconstV X0.here hx rfl (3 : Int32) (hb hby at_61) (by decide)) ?_
        show Done _ p e below s _ _ (T0.setTop (mkF m 62 #[.val (.int aa), .val (.int bb), .val (.int pp), .val (.int qq), .val (.int fl), .val (.int (2 : Int32)), .val (.int (2 : Int32)), .val (.int ((aa &&& (255 : Int32)).toUInt32.toUInt16.toUInt32.toInt32)), .val (.int ((((aa.toUInt32 >>> ((8 : Int32) &&& 31).toUInt32).toInt32) &&& (255 : Int32)).toUInt32.toUInt16.toUInt32.toInt32)), .val (.int ((bb &&& (255 : Int32)).toUInt32.toUInt16.toUInt32.toInt32)), .unset, .unset, .unset, .unset, .unset, .unset, .unset, .unset, .unset] [(.int (3 : Int32)), (.int fl)]))
        refine Done.step (fun _ => XT.iushr X0.here hx rfl (hb hby at_62) rfl) ?_
        show Done _ p e below s _ _ (T0.setTop (mkF m 63 #[.val (.int aa), .val (.int bb), .val (.int pp), .val (.int qq), .val (.int fl), .val (.int (2 : Int32)), .val (.int (2 : Int32)), .val (.int ((aa &&& (255 : Int32)).toUInt32.toUInt16.toUInt32.toInt32)), .val (.int ((((aa.toUInt32 >>> ((8 : Int32) &&& 31).toUInt32).toInt32) &&& (255 : Int32)).toUInt32.toUInt16.toUInt32.toInt32)), .val (.int ((bb &&& (255 : Int32)).toUInt32.toUInt16.toUInt32.toInt32)), .unset, .unset, .unset, .unset, .unset, .unset, .unset, .unset, .unset] [(.int ((fl.toUInt32 >>> ((3 : Int32) &&& 31).toUInt32).toInt32))]))
        refine Done.step (fun _ => XT.iconstV X0.here hx rfl (1 : Int32) (hb hby at_63) (by decide)) ?_
        show Done _ p e below s _ _ (T0.setTop (mkF m 64 #[.val (.int aa), .val (.int bb), .val (.int pp), .val (.int qq), .val (.int fl), .val (.int (2 : Int32)), .val (.int (2 : Int32)), .val (.int ((aa &&& (255 : Int32)).toUInt32.toUInt16.toUInt32.toInt32)), .val (.int ((((aa.toUInt32 >>> ((8 : Int32) &&& 31).toUInt32).toInt32) &&& (255 : Int32)).toUInt32.toUInt16.toUInt32.toInt32)), .val (.int ((bb &&& (255 : Int32)).toUInt32.toUInt16.toUInt32.toInt32)), .unset, .unset, .unset, .unset, .unset, .unset, .unset, .unset, .unset] [(.int (1 : Int32)), (.int ((fl.toUInt32 >>> ((3 : Int32) &&& 31).toUInt32).toInt32))]))
        refine Done.step (fun _ => XS.iand X0.here hx rfl (hb hby at_64) rfl) ?_
        show Done _ p e below s _ _ (T0.setTop (mkF m 65 #[.val (.int aa), .val (.int bb), .val (.int pp), .val (.int qq), .val (.int fl), .val (.int (2 : Int32)), .val (.int (2 : Int32)), .val (.int ((aa &&& (255 : Int32)).toUInt32.toUInt16.toUInt32.toInt32)), .val (.int ((((aa.toUInt32 >>> ((8 : Int32) &&& 31).toUInt32).toInt32) &&& (255 : Int32)).toUInt32.toUInt16.toUInt32.toInt32)), .val (.int ((bb &&& (255 : Int32)).toUInt32.toUInt16.toUInt32.toInt32)), .unset, .unset, .unset, .unset, .unset, .unset, .unset, .unset, .unset] [(.int (((fl.toUInt32 >>> ((3 : Int32) &&& 31).toUInt32).toInt32) &&& (1 : Int32)))]))
        by_cases hc292 : (((fl.toUInt32 >>> ((3 : Int32) &&& 31).toUInt32).toInt32) &&& (1 : Int32)) = (0 : Int32)
        · refine Done.step (fun _ => XS.ifYes X0.here hx rfl (pc0 := 65) (pc' := 73) rfl (hb hby at_65) rfl (XT.i0_eq_t hc292) (by decide) (by decide)) ?_
          show Done _ p e below s _ _ (T0.setTop (mkF m 73 #[.val (.int aa), .val (.int bb), .val (.int pp), .val (.int qq), .val (.int fl), .val (.int (2 : Int32)), .val (.int (2 : Int32)), .val (.int ((aa &&& (255 : Int32)).toUInt32.toUInt16.toUInt32.toInt32)), .val (.int ((((aa.toUInt32 >>> ((8 : Int32) &&& 31).toUInt32).toInt32) &&& (255 : Int32)).toUInt32.toUInt16.toUInt32.toInt32)), .val (.int ((bb &&& (255 : Int32)).toUInt32.toUInt16.toUInt32.toInt32)), .unset, .unset, .unset, .unset, .unset, .unset, .unset, .unset, .unset] []))
          refine Done.step (fun _ => XS.iloadN X0.here hx rfl (hb hby at_73) rfl) ?_
          show Done _ p e below s _ _ (T0.setTop (mkF m 74 #[.val (.int aa), .val (.int bb), .val (.int pp), .val (.int qq), .val (.int fl), .val (.int (2 : Int32)), .val (.int (2 : Int32)), .val (.int ((aa &&& (255 : Int32)).toUInt32.toUInt16.toUInt32.toInt32)), .val (.int ((((aa.toUInt32 >>> ((8 : Int32) &&& 31).toUInt32).toInt32) &&& (255 : Int32)).toUInt32.toUInt16.toUInt32.toInt32)), .val (.int ((bb &&& (255 : Int32)).toUInt32.toUInt16.toUInt32.toInt32)), .unset, .unset, .unset, .unset, .unset, .unset, .unset, .unset, .unset] [(.int bb)]))
          refine Done.step (fun _ => XT.bipushV X0.here hx rfl (8 : Int32) (hb hby at_74) (by decide)) ?_
          show Done _ p e below s _ _ (T0.setTop (mkF m 76 #[.val (.int aa), .val (.int bb), .val (.int pp), .val (.int qq), .val (.int fl), .val (.int (2 : Int32)), .val (.int (2 : Int32)), .val (.int ((aa &&& (255 : Int32)).toUInt32.toUInt16.toUInt32.toInt32)), .val (.int ((((aa.toUInt32 >>> ((8 : Int32) &&& 31).toUInt32).toInt32) &&& (255 : Int32)).toUInt32.toUInt16.toUInt32.toInt32)), .val (.int ((bb &&& (255 : Int32)).toUInt32.toUInt16.toUInt32.toInt32)), .unset, .unset, .unset, .unset, .unset, .unset, .unset, .unset, .unset] [(.int (8 : Int32)), (.int bb)]))
          refine Done.step (fun _ => XT.iushr X0.here hx rfl (hb hby at_76) rfl) ?_
          show Done _ p e below s _ _ (T0.setTop (mkF m 77 #[.val (.int aa), .val (.int bb), .val (.int pp), .val (.int qq), .val (.int fl), .val (.int (2 : Int32)), .val (.int (2 : Int32)), .val (.int ((aa &&& (255 : Int32)).toUInt32.toUInt16.toUInt32.toInt32)), .val (.int ((((aa.toUInt32 >>> ((8 : Int32) &&& 31).toUInt32).toInt32) &&& (255 : Int32)).toUInt32.toUInt16.toUInt32.toInt32)), .val (.int ((bb &&& (255 : Int32)).toUInt32.toUInt16.toUInt32.toInt32)), .unset, .unset, .unset, .unset, .unset, .unset, .unset, .unset, .unset] [(.int ((bb.toUInt32 >>> ((8 : Int32) &&& 31).toUInt32).toInt32))]))
          refine Done.step (fun _ => XT.sipushV X0.here hx rfl (255 : Int32) (hb hby at_77) (by decide)) ?_
          show Done _ p e below s _ _ (T0.setTop (mkF m 80 #[.val (.int aa), .val (.int bb), .val (.int pp), .val (.int qq), .val (.int fl), .val (.int (2 : Int32)), .val (.int (2 : Int32)), .val (.int ((aa &&& (255 : Int32)).toUInt32.toUInt16.toUInt32.toInt32)), .val (.int ((((aa.toUInt32 >>> ((8 : Int32) &&& 31).toUInt32).toInt32) &&& (255 : Int32)).toUInt32.toUInt16.toUInt32.toInt32)), .val (.int ((bb &&& (255 : Int32)).toUInt32.toUInt16.toUInt32.toInt32)), .unset, .unset, .unset, .unset, .unset, .unset, .unset, .unset, .unset] [(.int (255 : Int32)), (.int ((bb.toUInt32 >>> ((8 : Int32) &&& 31).toUInt32).toInt32))]))
          refine Done.step (fun _ => XS.iand X0.here hx rfl (hb hby at_80) rfl) ?_
          show Done _ p e below s _ _ (T0.setTop (mkF m 81 #[.val (.int aa), .val (.int bb), .val (.int pp), .val (.int qq), .val (.int fl), .val (.int (2 : Int32)), .val (.int (2 : Int32)), .val (.int ((aa &&& (255 : Int32)).toUInt32.toUInt16.toUInt32.toInt32)), .val (.int ((((aa.toUInt32 >>> ((8 : Int32) &&& 31).toUInt32).toInt32) &&& (255 : Int32)).toUInt32.toUInt16.toUInt32.toInt32)), .val (.int ((bb &&& (255 : Int32)).toUInt32.toUInt16.toUInt32.toInt32)), .unset, .unset, .unset, .unset, .unset, .unset, .unset, .unset, .unset] [(.int (((bb.toUInt32 >>> ((8 : Int32) &&& 31).toUInt32).toInt32) &&& (255 : Int32)))]))
          refine Done.step (fun _ => XT.i2c X0.here hx rfl (hb hby at_81) rfl) ?_
          show Done _ p e below s _ _ (T0.setTop (mkF m 82 #[.val (.int aa), .val (.int bb), .val (.int pp), .val (.int qq), .val (.int fl), .val (.int (2 : Int32)), .val (.int (2 : Int32)), .val (.int ((aa &&& (255 : Int32)).toUInt32.toUInt16.toUInt32.toInt32)), .val (.int ((((aa.toUInt32 >>> ((8 : Int32) &&& 31).toUInt32).toInt32) &&& (255 : Int32)).toUInt32.toUInt16.toUInt32.toInt32)), .val (.int ((bb &&& (255 : Int32)).toUInt32.toUInt16.toUInt32.toInt32)), .unset, .unset, .unset, .unset, .unset, .unset, .unset, .unset, .unset] [(.int ((((bb.toUInt32 >>> ((8 : Int32) &&& 31).toUInt32).toInt32) &&& (255 : Int32)).toUInt32.toUInt16.toUInt32.toInt32))]))
          refine Done.step (fun _ => XS.istore X0.here hx rfl (hb hby at_82) rfl (l' := #[.val (.int aa), .val (.int bb), .val (.int pp), .val (.int qq), .val (.int fl), .val (.int (2 : Int32)), .val (.int (2 : Int32)), .val (.int ((aa &&& (255 : Int32)).toUInt32.toUInt16.toUInt32.toInt32)), .val (.int ((((aa.toUInt32 >>> ((8 : Int32) &&& 31).toUInt32).toInt32) &&& (255 : Int32)).toUInt32.toUInt16.toUInt32.toInt32)), .val (.int ((bb &&& (255 : Int32)).toUInt32.toUInt16.toUInt32.toInt32)), .val (.int ((((bb.toUInt32 >>> ((8 : Int32) &&& 31).toUInt32).toInt32) &&& (255 : Int32)).toUInt32.toUInt16.toUInt32.toInt32)), .unset, .unset, .unset, .unset, .unset, .unset, .unset, .unset]) rfl) ?_
          show Done _ p e below s _ _ (T0.setTop (mkF m 84 #[.val (.int aa), .val (.int bb), .val (.int pp), .val (.int qq), .val (.int fl), .val (.int (2 : Int32)), .val (.int (2 : Int32)), .val (.int ((aa &&& (255 : Int32)).toUInt32.toUInt16.toUInt32.toInt32)), .val (.int ((((aa.toUInt32 >>> ((8 : Int32) &&& 31).toUInt32).toInt32) &&& (255 : Int32)).toUInt32.toUInt16.toUInt32.toInt32)), .val (.int ((bb &&& (255 : Int32)).toUInt32.toUInt16.toUInt32.toInt32)), .val (.int ((((bb.toUInt32 >>> ((8 : Int32) &&& 31).toUInt32).toInt32) &&& (255 : Int32)).toUInt32.toUInt16.toUInt32.toInt32)), .unset, .unset, .unset, .unset, .unset, .unset, .unset, .unset] []))
          exact K84 ((aa &&& (255 : Int32)).toUInt32.toUInt16.toUInt32.toInt32) ((((aa.toUInt32 >>> ((8 : Int32) &&& 31).toUInt32).toInt32) &&& (255 : Int32)).toUInt32.toUInt16.toUInt32.toInt32) ((bb &&& (255 : Int32)).toUInt32.toUInt16.toUInt32.toInt32) ((((bb.toUInt32 >>> ((8 : Int32) &&& 31).toUInt32).toInt32) &&& (255 : Int32)).toUInt32.toUInt16.toUInt32.toInt32) (own_ch _) (own_ch _) (own_ch _) (own_ch _)
        · refine Done.step (fun _ => XS.ifNo X0.here hx rfl (hb hby at_65) rfl (XT.i0_eq_f hc292)) ?_
          show Done _ p e below s _ _ (T0.setTop (mkF m 68 #[.val (.int aa), .val (.int bb), .val (.int pp), .val (.int qq), .val (.int fl), .val (.int (2 : Int32)), .val (.int (2 : Int32)), .val (.int ((aa &&& (255 : Int32)).toUInt32.toUInt16.toUInt32.toInt32)), .val (.int ((((aa.toUInt32 >>> ((8 : Int32) &&& 31).toUInt32).toInt32) &&& (255 : Int32)).toUInt32.toUInt16.toUInt32.toInt32)), .val (.int ((bb &&& (255 : Int32)).toUInt32.toUInt16.toUInt32.toInt32)), .unset, .unset, .unset, .unset, .unset, .unset, .unset, .unset, .unset] []))
          refine Done.step (fun _ => XS.iload X0.here hx rfl (hb hby at_68) rfl) ?_
          show Done _ p e below s _ _ (T0.setTop (mkF m 70 #[.val (.int aa), .val (.int bb), .val (.int pp), .val (.int qq), .val (.int fl), .val (.int (2 : Int32)), .val (.int (2 : Int32)), .val (.int ((aa &&& (255 : Int32)).toUInt32.toUInt16.toUInt32.toInt32)), .val (.int ((((aa.toUInt32 >>> ((8 : Int32) &&& 31).toUInt32).toInt32) &&& (255 : Int32)).toUInt32.toUInt16.toUInt32.toInt32)), .val (.int ((bb &&& (255 : Int32)).toUInt32.toUInt16.toUInt32.toInt32)), .unset, .unset, .unset, .unset, .unset, .unset, .unset, .unset, .unset] [(.int ((((aa.toUInt32 >>> ((8 : Int32) &&& 31).toUInt32).toInt32) &&& (255 : Int32)).toUInt32.toUInt16.toUInt32.toInt32))]))
          refine Done.step (fun _ => XS.goto X0.here hx rfl (pc0 := 70) (pc' := 82) rfl (hb hby at_70) (by decide) (by decide)) ?_
          show Done _ p e below s _ _ (T0.setTop (mkF m 82 #[.val (.int aa), .val (.int bb), .val (.int pp), .val (.int qq), .val (.int fl), .val (.int (2 : Int32)), .val (.int (2 : Int32)), .val (.int ((aa &&& (255 : Int32)).toUInt32.toUInt16.toUInt32.toInt32)), .val (.int ((((aa.toUInt32 >>> ((8 : Int32) &&& 31).toUInt32).toInt32) &&& (255 : Int32)).toUInt32.toUInt16.toUInt32.toInt32)), .val (.int ((bb &&& (255 : Int32)).toUInt32.toUInt16.toUInt32.toInt32)), .unset, .unset, .unset, .unset, .unset, .unset, .unset, .unset, .unset] [(.int ((((aa.toUInt32 >>> ((8 : Int32) &&& 31).toUInt32).toInt32) &&& (255 : Int32)).toUInt32.toUInt16.toUInt32.toInt32))]))
          refine Done.step (fun _ => XS.istore X0.here hx rfl (hb hby at_82) rfl (l' := #[.val (.int aa), .val (.int bb), .val (.int pp), .val (.int qq), .val (.int fl), .val (.int (2 : Int32)), .val (.int (2 : Int32)), .val (.int ((aa &&& (255 : Int32)).toUInt32.toUInt16.toUInt32.toInt32)), .val (.int ((((aa.toUInt32 >>> ((8 : Int32) &&& 31).toUInt32).toInt32) &&& (255 : Int32)).toUInt32.toUInt16.toUInt32.toInt32)), .val (.int ((bb &&& (255 : Int32)).toUInt32.toUInt16.toUInt32.toInt32)), .val (.int ((((aa.toUInt32 >>> ((8 : Int32) &&& 31).toUInt32).toInt32) &&& (255 : Int32)).toUInt32.toUInt16.toUInt32.toInt32)), .unset, .unset, .unset, .unset, .unset, .unset, .unset, .unset]) rfl) ?_
          show Done _ p e below s _ _ (T0.setTop (mkF m 84 #[.val (.int aa), .val (.int bb), .val (.int pp), .val (.int qq), .val (.int fl), .val (.int (2 : Int32)), .val (.int (2 : Int32)), .val (.int ((aa &&& (255 : Int32)).toUInt32.toUInt16.toUInt32.toInt32)), .val (.int ((((aa.toUInt32 >>> ((8 : Int32) &&& 31).toUInt32).toInt32) &&& (255 : Int32)).toUInt32.toUInt16.toUInt32.toInt32)), .val (.int ((bb &&& (255 : Int32)).toUInt32.toUInt16.toUInt32.toInt32)), .val (.int ((((aa.toUInt32 >>> ((8 : Int32) &&& 31).toUInt32).toInt32) &&& (255 : Int32)).toUInt32.toUInt16.toUInt32.toInt32)), .unset, .unset, .unset, .unset, .unset, .unset, .unset, .unset] []))
          exact K84 ((aa &&& (255 : Int32)).toUInt32.toUInt16.toUInt32.toInt32) ((((aa.toUInt32 >>> ((8 : Int32) &&& 31).toUInt32).toInt32) &&& (255 : Int32)).toUInt32.toUInt16.toUInt32.toInt32) ((bb &&& (255 : Int32)).toUInt32.toUInt16.toUInt32.toInt32) ((((aa.toUInt32 >>> ((8 : Int32) &&& 31).toUInt32).toInt32) &&& (255 : Int32)).toUInt32.toUInt16.toUInt32.toInt32) (own_ch _) (own_ch _) (own_ch _) (own_ch _)
      · refine Done.step (fun _ => XS.ifNo X0.here hx rfl (hb hby at_43) rfl (XT.i0_eq_f hc291)) ?_
        show Done _ p e below s _ _ (T0.setTop (mkF m 46 #[.val (.int aa), .val (.int bb), .val (.int pp), .val (.int qq), .val (.int fl), .val (.int (2 : Int32)), .val (.int (2 : Int32)), .val (.int ((aa &&& (255 : Int32)).toUInt32.toUInt16.toUInt32.toInt32)), .val (.int ((((aa.toUInt32 >>> ((8 : Int32) &&& 31).toUInt32).toInt32) &&& (255 : Int32)).toUInt32.toUInt16.toUInt32.toInt32)), .unset, .unset, .unset, .unset, .unset, .unset, .unset, .unset, .unset, .unset] []))
        refine Done.step (fun _ => XS.iload X0.here hx rfl (hb hby at_46) rfl) ?_
        show Done _ p e below s _ _ (T0.setTop (mkF m 48 #[.val (.int aa), .val (.int bb), .val (.int pp), .val (.int qq), .val (.int fl), .val (.int (2 : Int32)), .val (.int (2 : Int32)), .val (.int ((aa &&& (255 : Int32)).toUInt32.toUInt16.toUInt32.toInt32)), .val (.int ((((aa.toUInt32 >>> ((8 : Int32) &&& 31).toUInt32).toInt32) &&& (255 : Int32)).toUInt32.toUInt16.toUInt32.toInt32)), .unset, .unset, .unset, .unset, .unset, .unset, .unset, .unset, .unset, .unset] [(.int ((aa &&& (255 : Int32)).toUInt32.toUInt16.toUInt32.toInt32))]))
        refine Done.step (fun _ => XS.goto X0.here hx rfl (pc0 := 48) (pc' := 57) rfl (hb hby at_48) (by decide) (by decide)) ?_
        show Done _ p e below s _ _ (T0.setTop (mkF m 57 #[.val (.int aa), .val (.int bb), .val (.int pp), .val (.int qq), .val (.int fl), .val (.int (2 : Int32)), .val (.int (2 : Int32)), .val (.int ((aa &&& (255 : Int32)).toUInt32.toUInt16.toUInt32.toInt32)), .val (.int ((((aa.toUInt32 >>> ((8 : Int32) &&& 31).toUInt32).toInt32) &&& (255 : Int32)).toUInt32.toUInt16.toUInt32.toInt32)), .unset, .unset, .unset, .unset, .unset, .unset, .unset, .unset, .unset, .unset] [(.int ((aa &&& (255 : Int32)).toUInt32.toUInt16.toUInt32.toInt32))]))
        refine Done.step (fun _ => XS.istore X0.here hx rfl (hb hby at_57) rfl (l' := #[.val (.int aa), .val (.int bb), .val (.int pp), .val (.int qq), .val (.int fl), .val (.int (2 : Int32)), .val (.int (2 : Int32)), .val (.int ((aa &&& (255 : Int32)).toUInt32.toUInt16.toUInt32.toInt32)), .val (.int ((((aa.toUInt32 >>> ((8 : Int32) &&& 31).toUInt32).toInt32) &&& (255 : Int32)).toUInt32.toUInt16.toUInt32.toInt32)), .val (.int ((aa &&& (255 : Int32)).toUInt32.toUInt16.toUInt32.toInt32)), .unset, .unset, .unset, .unset, .unset, .unset, .unset, .unset, .unset]) rfl) ?_
        show Done _ p e below s _ _ (T0.setTop (mkF m 59 #[.val (.int aa), .val (.int bb), .val (.int pp), .val (.int qq), .val (.int fl), .val (.int (2 : Int32)), .val (.int (2 : Int32)), .val (.int ((aa &&& (255 : Int32)).toUInt32.toUInt16.toUInt32.toInt32)), .val (.int ((((aa.toUInt32 >>> ((8 : Int32) &&& 31).toUInt32).toInt32) &&& (255 : Int32)).toUInt32.toUInt16.toUInt32.toInt32)), .val (.int ((aa &&& (255 : Int32)).toUInt32.toUInt16.toUInt32.toInt32)), .unset, .unset, .unset, .unset, .unset, .unset, .unset, .unset, .unset] []))
        refine Done.step (fun _ => XS.iload X0.here hx rfl (hb hby at_59) rfl) ?_
        show Done _ p e below s _ _ (T0.setTop (mkF m 61 #[.val (.int aa), .val (.int bb), .val (.int pp), .val (.int qq), .val (.int fl), .val (.int (2 : Int32)), .val (.int (2 : Int32)), .val (.int ((aa &&& (255 : Int32)).toUInt32.toUInt16.toUInt32.toInt32)), .val (.int ((((aa.toUInt32 >>> ((8 : Int32) &&& 31).toUInt32).toInt32) &&& (255 : Int32)).toUInt32.toUInt16.toUInt32.toInt32)), .val (.int ((aa &&& (255 : Int32)).toUInt32.toUInt16.toUInt32.toInt32)), .unset, .unset, .unset, .unset, .unset, .unset, .unset, .unset, .unset] [(.int fl)]))
        refine Done.step (fun _ => XT.iconstV X0.here hx rfl (3 : Int32) (hb hby at_61) (by decide)) ?_
        show Done _ p e below s _ _ (T0.setTop (mkF m 62 #[.val (.int aa), .val (.int bb), .val (.int pp), .val (.int qq), .val (.int fl), .val (.int (2 : Int32)), .val (.int (2 : Int32)), .val (.int ((aa &&& (255 : Int32)).toUInt32.toUInt16.toUInt32.toInt32)), .val (.int ((((aa.toUInt32 >>> ((8 : Int32) &&& 31).toUInt32).toInt32) &&& (255 : Int32)).toUInt32.toUInt16.toUInt32.toInt32)), .val (.int ((aa &&& (255 : Int32)).toUInt32.toUInt16.toUInt32.toInt32)), .unset, .unset, .unset, .unset, .unset, .unset, .unset, .unset, .unset] [(.int (3 : Int32)), (.int fl)]))
        refine Done.step (fun _ => XT.iushr X0.here hx rfl (hb hby at_62) rfl) ?_
        show Done _ p e below s _ _ (T0.setTop (mkF m 63 #[.val (.int aa), .val (.int bb), .val (.int pp), .val (.int qq), .val (.int fl), .val (.int (2 : Int32)), .val (.int (2 : Int32)), .val (.int ((aa &&& (255 : Int32)).toUInt32.toUInt16.toUInt32.toInt32)), .val (.int ((((aa.toUInt32 >>> ((8 : Int32) &&& 31).toUInt32).toInt32) &&& (255 : Int32)).toUInt32.toUInt16.toUInt32.toInt32)), .val (.int ((aa &&& (255 : Int32)).toUInt32.toUInt16.toUInt32.toInt32)), .unset, .unset, .unset, .unset, .unset, .unset, .unset, .unset, .unset] [(.int ((fl.toUInt32 >>> ((3 : Int32) &&& 31).toUInt32).toInt32))]))
        refine Done.step (fun _ => XT.iconstV X0.here hx rfl (1 : Int32) (hb hby at_63) (by decide)) ?_
        show Done _ p e below s _ _ (T0.setTop (mkF m 64 #[.val (.int aa), .val (.int bb), .val (.int pp), .val (.int qq), .val (.int fl), .val (.int (2 : Int32)), .val (.int (2 : Int32)), .val (.int ((aa &&& (255 : Int32)).toUInt32.toUInt16.toUInt32.toInt32)), .val (.int ((((aa.toUInt32 >>> ((8 : Int32) &&& 31).toUInt32).toInt32) &&& (255 : Int32)).toUInt32.toUInt16.toUInt32.toInt32)), .val (.int ((aa &&& (255 : Int32)).toUInt32.toUInt16.toUInt32.toInt32)), .unset, .unset, .unset, .unset, .unset, .unset, .unset, .unset, .unset] [(.int (1 : Int32)), (.int ((fl.toUInt32 >>> ((3 : Int32) &&& 31).toUInt32).toInt32))]))
        refine Done.step (fun _ => XS.iand X0.here hx rfl (hb hby at_64) rfl) ?_
        show Done _ p e below s _ _ (T0.setTop (mkF m 65 #[.val (.int aa), .val (.int bb), .val (.int pp), .val (.int qq), .val (.int fl), .val (.int (2 : Int32)), .val (.int (2 : Int32)), .val (.int ((aa &&& (255 : Int32)).toUInt32.toUInt16.toUInt32.toInt32)), .val (.int ((((aa.toUInt32 >>> ((8 : Int32) &&& 31).toUInt32).toInt32) &&& (255 : Int32)).toUInt32.toUInt16.toUInt32.toInt32)), .val (.int ((aa &&& (255 : Int32)).toUInt32.toUInt16.toUInt32.toInt32)), .unset, .unset, .unset, .unset, .unset, .unset, .unset, .unset, .unset] [(.int (((fl.toUInt32 >>> ((3 : Int32) &&& 31).toUInt32).toInt32) &&& (1 : Int32)))]))
        by_cases hc293 : (((fl.toUInt32 >>> ((3 : Int32) &&& 31).toUInt32).toInt32) &&& (1 : Int32)) = (0 : Int32)
        · refine Done.step (fun _ => XS.ifYes X0.here hx rfl (pc0 := 65) (pc' := 73) rfl (hb hby at_65) rfl (XT.i0_eq_t hc293) (by decide) (by decide)) ?_
          show Done _ p e below s _ _ (T0.setTop (mkF m 73 #[.val (.int aa), .val (.int bb), .val (.int pp), .val (.int qq), .val (.int fl), .val (.int (2 : Int32)), .val (.int (2 : Int32)), .val (.int ((aa &&& (255 : Int32)).toUInt32.toUInt16.toUInt32.toInt32)), .val (.int ((((aa.toUInt32 >>> ((8 : Int32) &&& 31).toUInt32).toInt32) &&& (255 : Int32)).toUInt32.toUInt16.toUInt32.toInt32)), .val (.int ((aa &&& (255 : Int32)).toUInt32.toUInt16.toUInt32.toInt32)), .unset, .unset, .unset, .unset, .unset, .unset, .unset, .unset, .unset] []))
          refine Done.step (fun _ => XS.iloadN X0.here hx rfl (hb hby at_73) rfl) ?_
          show Done _ p e below s _ _ (T0.setTop (mkF m 74 #[.val (.int aa), .val (.int bb), .val (.int pp), .val (.int qq), .val (.int fl), .val (.int (2 : Int32)), .val (.int (2 : Int32)), .val (.int ((aa &&& (255 : Int32)).toUInt32.toUInt16.toUInt32.toInt32)), .val (.int ((((aa.toUInt32 >>> ((8 : Int32) &&& 31).toUInt32).toInt32) &&& (255 : Int32)).toUInt32.toUInt16.toUInt32.toInt32)), .val (.int ((aa &&& (255 : Int32)).toUInt32.toUInt16.toUInt32.toInt32)), .unset, .unset, .unset, .unset, .unset, .unset, .unset, .unset, .unset] [(.int bb)]))
          refine Done.step (fun _ => XT.bipushV X0.here hx rfl (8 : Int32) (hb hby at_74) (by decide)) ?_
          show Done _ p e below s _ _ (T0.setTop (mkF m 76 #[.val (.int aa), .val (.int bb), .val (.int pp), .val (.int qq), .val (.int fl), .val (.int (2 : Int32)), .val (.int (2 : Int32)), .val (.int ((aa &&& (255 : Int32)).toUInt32.toUInt16.toUInt32.toInt32)), .val (.int ((((aa.toUInt32 >>> ((8 : Int32) &&& 31).toUInt32).toInt32) &&& (255 : Int32)).toUInt32.toUInt16.toUInt32.toInt32)), .val (.int ((aa &&& (255 : Int32)).toUInt32.toUInt16.toUInt32.toInt32)), .unset, .unset, .unset, .unset, .unset, .unset, .unset, .unset, .unset] [(.int (8 : Int32)), (.int bb)]))
          refine Done.step (fun _ => XT.iushr X0.here hx rfl (hb hby at_76) rfl) ?_
          show Done _ p e below s _ _ (T0.setTop (mkF m 77 #[.val (.int aa), .val (.int bb), .val (.int pp), .val (.int qq), .val (.int fl), .val (.int (2 : Int32)), .val (.int (2 : Int32)), .val (.int ((aa &&& (255 : Int32)).toUInt32.toUInt16.toUInt32.toInt32)), .val (.int ((((aa.toUInt32 >>> ((8 : Int32) &&& 31).toUInt32).toInt32) &&& (255 : Int32)).toUInt32.toUInt16.toUInt32.toInt32)), .val (.int ((aa &&& (255 : Int32)).toUInt32.toUInt16.toUInt32.toInt32)), .unset, .unset, .unset, .unset, .unset, .unset, .unset, .unset, .unset] [(.int ((bb.toUInt32 >>> ((8 : Int32) &&& 31).toUInt32).toInt32))]))
          refine Done.step (fun _ => XT.sipushV X0.here hx rfl (255 : Int32) (hb hby at_77) (by decide)) ?_
          show Done _ p e below s _ _ (T0.setTop (mkF m 80 #[.val (.int aa), .val (.int bb), .val (.int pp), .val (.int qq), .val (.int fl), .val (.int (2 : Int32)), .val (.int (2 : Int32)), .val (.int ((aa &&& (255 : Int32)).toUInt32.toUInt16.toUInt32.toInt32)), .val (.int ((((aa.toUInt32 >>> ((8 : Int32) &&& 31).toUInt32).toInt32) &&& (255 : Int32)).toUInt32.toUInt16.toUInt32.toInt32)), .val (.int ((aa &&& (255 : Int32)).toUInt32.toUInt16.toUInt32.toInt32)), .unset, .unset, .unset, .unset, .unset, .unset, .unset, .unset, .unset] [(.int (255 : Int32)), (.int ((bb.toUInt32 >>> ((8 : Int32) &&& 31).toUInt32).toInt32))]))
          refine Done.step (fun _ => XS.iand X0.here hx rfl (hb hby at_80) rfl) ?_
          show Done _ p e below s _ _ (T0.setTop (mkF m 81 #[.val (.int aa), .val (.int bb), .val (.int pp), .val (.int qq), .val (.int fl), .val (.int (2 : Int32)), .val (.int (2 : Int32)), .val (.int ((aa &&& (255 : Int32)).toUInt32.toUInt16.toUInt32.toInt32)), .val (.int ((((aa.toUInt32 >>> ((8 : Int32) &&& 31).toUInt32).toInt32) &&& (255 : Int32)).toUInt32.toUInt16.toUInt32.toInt32)), .val (.int ((aa &&& (255 : Int32)).toUInt32.toUInt16.toUInt32.toInt32)), .unset, .unset, .unset, .unset, .unset, .unset, .unset, .unset, .unset] [(.int (((bb.toUInt32 >>> ((8 : Int32) &&& 31).toUInt32).toInt32) &&& (255 : Int32)))]))
          refine Done.step (fun _ => XT.i2c X0.here hx rfl (hb hby at_81) rfl) ?_
          show Done _ p e below s _ _ (T0.setTop (mkF m 82 #[.val (.int aa), .val (.int bb), .val (.int pp), .val (.int qq), .val (.int fl), .val (.int (2 : Int32)), .val (.int (2 : Int32)), .val (.int ((aa &&& (255 : Int32)).toUInt32.toUInt16.toUInt32.toInt32)), .val (.int ((((aa.toUInt32 >>> ((8 : Int32) &&& 31).toUInt32).toInt32) &&& (255 : Int32)).toUInt32.toUInt16.toUInt32.toInt32)), .val (.int ((aa &&& (255 : Int32)).toUInt32.toUInt16.toUInt32.toInt32)), .unset, .unset, .unset, .unset, .unset, .unset, .unset, .unset, .unset] [(.int ((((bb.toUInt32 >>> ((8 : Int32) &&& 31).toUInt32).toInt32) &&& (255 : Int32)).toUInt32.toUInt16.toUInt32.toInt32))]))
          refine Done.step (fun _ => XS.istore X0.here hx rfl (hb hby at_82) rfl (l' := #[.val (.int aa), .val (.int bb), .val (.int pp), .val (.int qq), .val (.int fl), .val (.int (2 : Int32)), .val (.int (2 : Int32)), .val (.int ((aa &&& (255 : Int32)).toUInt32.toUInt16.toUInt32.toInt32)), .val (.int ((((aa.toUInt32 >>> ((8 : Int32) &&& 31).toUInt32).toInt32) &&& (255 : Int32)).toUInt32.toUInt16.toUInt32.toInt32)), .val (.int ((aa &&& (255 : Int32)).toUInt32.toUInt16.toUInt32.toInt32)), .val (.int ((((bb.toUInt32 >>> ((8 : Int32) &&& 31).toUInt32).toInt32) &&& (255 : Int32)).toUInt32.toUInt16.toUInt32.toInt32)), .unset, .unset, .unset, .unset, .unset, .unset, .unset, .unset]) rfl) ?_
          show Done _ p e below s _ _ (T0.setTop (mkF m 84 #[.val (.int aa), .val (.int bb), .val (.int pp), .val (.int qq), .val (.int fl), .val (.int (2 : Int32)), .val (.int (2 : Int32)), .val (.int ((aa &&& (255 : Int32)).toUInt32.toUInt16.toUInt32.toInt32)), .val (.int ((((aa.toUInt32 >>> ((8 : Int32) &&& 31).toUInt32).toInt32) &&& (255 : Int32)).toUInt32.toUInt16.toUInt32.toInt32)), .val (.int ((aa &&& (255 : Int32)).toUInt32.toUInt16.toUInt32.toInt32)), .val (.int ((((bb.toUInt32 >>> ((8 : Int32) &&& 31).toUInt32).toInt32) &&& (255 : Int32)).toUInt32.toUInt16.toUInt32.toInt32)), .unset, .unset, .unset, .unset, .unset, .unset, .unset, .unset] []))
          exact K84 ((aa &&& (255 : Int32)).toUInt32.toUInt16.toUInt32.toInt32) ((((aa.toUInt32 >>> ((8 : Int32) &&& 31).toUInt32).toInt32) &&& (255 : Int32)).toUInt32.toUInt16.toUInt32.toInt32) ((aa &&& (255 : Int32)).toUInt32.toUInt16.toUInt32.toInt32) ((((bb.toUInt32 >>> ((8 : Int32) &&& 31).toUInt32).toInt32) &&& (255 : Int32)).toUInt32.toUInt16.toUInt32.toInt32) (own_ch _) (own_ch _) (own_ch _) (own_ch _)
        · refine Done.step (fun _ => XS.ifNo X0.here hx rfl (hb hby at_65) rfl (XT.i0_eq_f hc293)) ?_
          show Done _ p e below s _ _ (T0.setTop (mkF m 68 #[.val (.int aa), .val (.int bb), .val (.int pp), .val (.int qq), .val (.int fl), .val (.int (2 : Int32)), .val (.int (2 : Int32)), .val (.int ((aa &&& (255 : Int32)).toUInt32.toUInt16.toUInt32.toInt32)), .val (.int ((((aa.toUInt32 >>> ((8 : Int32) &&& 31).toUInt32).toInt32) &&& (255 : Int32)).toUInt32.toUInt16.toUInt32.toInt32)), .val (.int ((aa &&& (255 : Int32)).toUInt32.toUInt16.toUInt32.toInt32)), .unset, .unset, .unset, .unset, .unset, .unset, .unset, .unset, .unset] []))
          refine Done.step (fun _ => XS.iload X0.here hx rfl (hb hby at_68) rfl) ?_
          show Done _ p e below s _ _ (T0.setTop (mkF m 70 #[.val (.int aa), .val (.int bb), .val (.int pp), .val (.int qq), .val (.int fl), .val (.int (2 : Int32)), .val (.int (2 : Int32)), .val (.int ((aa &&& (255 : Int32)).toUInt32.toUInt16.toUInt32.toInt32)), .val (.int ((((aa.toUInt32 >>> ((8 : Int32) &&& 31).toUInt32).toInt32) &&& (255 : Int32)).toUInt32.toUInt16.toUInt32.toInt32)), .val (.int ((aa &&& (255 : Int32)).toUInt32.toUInt16.toUInt32.toInt32)), .unset, .unset, .unset, .unset, .unset, .unset, .unset, .unset, .unset] [(.int ((((aa.toUInt32 >>> ((8 : Int32) &&& 31).toUInt32).toInt32) &&& (255 : Int32)).toUInt32.toUInt16.toUInt32.toInt32))]))
          refine Done.step (fun _ => XS.goto X0.here hx rfl (pc0 := 70) (pc' := 82) rfl (hb hby at_70) (by decide) (by decide)) ?_
          show Done _ p e below s _ _ (T0.setTop (mkF m 82 #[.val (.int aa), .val (.int bb), .val (.int pp), .val (.int qq), .val (.int fl), .val (.int (2 : Int32)), .val (.int (2 : Int32)), .val (.int ((aa &&& (255 : Int32)).toUInt32.toUInt16.toUInt32.toInt32)), .val (.int ((((aa.toUInt32 >>> ((8 : Int32) &&& 31).toUInt32).toInt32) &&& (255 : Int32)).toUInt32.toUInt16.toUInt32.toInt32)), .val (.int ((aa &&& (255 : Int32)).toUInt32.toUInt16.toUInt32.toInt32)), .unset, .unset, .unset, .unset, .unset, .unset, .unset, .unset, .unset] [(.int ((((aa.toUInt32 >>> ((8 : Int32) &&& 31).toUInt32).toInt32) &&& (255 : Int32)).toUInt32.toUInt16.toUInt32.toInt32))]))
          refine Done.step (fun _ => XS.istore X0.here hx rfl (hb hby at_82) rfl (l' := #[.val (.int aa), .val (.int bb), .val (.int pp), .val (.int qq), .val (.int fl), .val (.int (2 : Int32)), .val (.int (2 : Int32)), .val (.int ((aa &&& (255 : Int32)).toUInt32.toUInt16.toUInt32.toInt32)), .val (.int ((((aa.toUInt32 >>> ((8 : Int32) &&& 31).toUInt32).toInt32) &&& (255 : Int32)).toUInt32.toUInt16.toUInt32.toInt32)), .val (.int ((aa &&& (255 : Int32)).toUInt32.toUInt16.toUInt32.toInt32)), .val (.int ((((aa.toUInt32 >>> ((8 : Int32) &&& 31).toUInt32).toInt32) &&& (255 : Int32)).toUInt32.toUInt16.toUInt32.toInt32)), .unset, .unset, .unset, .unset, .unset, .unset, .unset, .unset]) rfl) ?_
          show Done _ p e below s _ _ (T0.setTop (mkF m 84 #[.val (.int aa), .val (.int bb), .val (.int pp), .val (.int qq), .val (.int fl), .val (.int (2 : Int32)), .val (.int (2 : Int32)), .val (.int ((aa &&& (255 : Int32)).toUInt32.toUInt16.toUInt32.toInt32)), .val (.int ((((aa.toUInt32 >>> ((8 : Int32) &&& 31).toUInt32).toInt32) &&& (255 : Int32)).toUInt32.toUInt16.toUInt32.toInt32)), .val (.int ((aa &&& (255 : Int32)).toUInt32.toUInt16.toUInt32.toInt32)), .val (.int ((((aa.toUInt32 >>> ((8 : Int32) &&& 31).toUInt32).toInt32) &&& (255 : Int32)).toUInt32.toUInt16.toUInt32.toInt32)), .unset, .unset, .unset, .unset, .unset, .unset, .unset, .unset] []))
          exact K84 ((aa &&& (255 : Int32)).toUInt32.toUInt16.toUInt32.toInt32) ((((aa.toUInt32 >>> ((8 : Int32) &&& 31).toUInt32).toInt32) &&& (255 : Int32)).toUInt32.toUInt16.toUInt32.toInt32) ((aa &&& (255 : Int32)).toUInt32.toUInt16.toUInt32.toInt32) ((((aa.toUInt32 >>> ((8 : Int32) &&& 31).toUInt32).toInt32) &&& (255 : Int32)).toUInt32.toUInt16.toUInt32.toInt32) (own_ch _) (own_ch _) (own_ch _) (own_ch _)
set_option maxRecDepth 65536 in
set_option maxHeartbeats 40000000 in
theorem comes_1 {Post : Tables → Env → Array Value → State → Outcome → State → Prop} (hpost : ∀ tb e args s v u, (limb_1_1.after args s (.returned v) u = true ∧ limb_1_2.after args s (.returned v) u = true ∧ True) → FrameEnd s (.returned v) u (Jvm.fieldLocs frame_1_writes args s ++ Jvm.arrayLocs frame_1_arrays args s ++ Jvm.staticLocs frame_1_statics s) 32 128 → Post tb e args s (.returned v) u) :
    ArmFor flags0 classFile x code maxLocals ret World_1 tables_1 room_1 Calls_1 rest_1 Pre_1 Post := by
  intro l hfl _ _ p e ha hc hk s m args below hf hA hF happ hP
  obtain ⟨hcalls, hrest, hpre⟩ := hP
  obtain ⟨-, -, -, hnamed, -, -, -, hat⟩ := (Spec.applies_iff hf).mp happ
  obtain ⟨hg, hn⟩ := and_e (Cond.before_iff.mp (show (Jvm.Cond.and given_1 narrow_1).before args s = true from hpre))
  obtain ⟨w0, w1, w2, w3, w4, rfl⟩ : ∃ w0 w1 w2 w3 w4 : Value, args = #[w0, w1, w2, w3, w4] := by
    have hs : args.size = 5 := by simpa [Cond.value] using (and_e hg).1
    obtain ⟨L⟩ := args
    match L, hs with
    | [w0, w1, w2, w3, w4], _ => exact ⟨w0, w1, w2, w3, w4, rfl⟩
  have hw := fun d (hd : d ∈ tables_1) => atoms_spec (ws := Jvm.Cond.code x code maxLocals ret :: tables_1) hat d (List.mem_cons_of_mem _ hd)
  have hfit : Fit s := fun {y c} hc i hi => by
    obtain ⟨ha, rfl⟩ := Array.getElem?_eq_some_iff.mp hc
    have q := List.all_eq_true.mp ((Array.all_eq_true_iff_forall_mem.mp hF) _ (Array.getElem_mem ha)) i (List.mem_range.mpr hi)
    simpa [Array.getElem?_eq_getElem hi] using q
  obtain ⟨hsets, hown0⟩ := atoms_of _ (rest_1_c_eq ▸ (show rest_1_c.before _ s = true from hrest))
  have hr0 := Cond.before_iff.mp hown0
  obtain ⟨_, hg0⟩ := and_e hg
  obtain ⟨ga0, hg1⟩ := and_e hg0
  obtain ⟨i0, ei0⟩ := is_v ga0
  obtain rfl : w0 = (.int i0) := Option.some.inj ei0
  obtain ⟨ga1, hg2⟩ := and_e hg1
  obtain ⟨i1, ei1⟩ := is_v ga1
  obtain rfl : w1 = (.int i1) := Option.some.inj ei1
  obtain ⟨ga2, hg3⟩ := and_e hg2
  obtain ⟨i2, ei2⟩ := is_v ga2
  obtain rfl : w2 = (.int i2) := Option.some.inj ei2
  obtain ⟨ga3, hg4⟩ := and_e hg3
  obtain ⟨i3, ei3⟩ := is_v ga3
  obtain rfl : w3 = (.int i3) := Option.some.inj ei3
  obtain ⟨i4, ei4⟩ := is_v hg4
  obtain rfl : w4 = (.int i4) := Option.some.inj ei4
  obtain ⟨z, ez⟩ := is_v (Cond.before_iff.mp (hsets _ (List.mem_of_getElem? (i := 1) rfl)))
  have SC := Sta.start ez (Or.inl (hsets _ (List.mem_of_getElem? (i := 0) rfl)))
  have hz : ¬ z = 0 := fun q => by
    subst q
    have q2 := Cond.before_iff.mp (hsets _ (List.mem_of_getElem? (i := 2) rfl))
    simp [Cond.value, Term.eval] at q2 ez
    simp [ez] at q2
  have eh := int_eq_v (Cond.before_iff.mp (hsets _ (List.mem_of_getElem? (i := 12) rfl)))
  have SH := Sta.start eh (Or.inl (hsets _ (List.mem_of_getElem? (i := 10) rfl)))
  have har := Cond.before_iff.mp (hsets _ (List.mem_of_getElem? (i := 13) rfl))
  obtain ⟨cA, ecA⟩ := arr_v har
  have SK := Sta.start ecA (Or.inr ⟨(wAt hw 54 rfl), hsets _ (List.mem_of_getElem? (i := 11) rfl)⟩)
  obtain ⟨cl, CA⟩ := Arr.start ecA har
  have hln := int_eq_v (Cond.before_iff.mp (hsets _ (List.mem_of_getElem? (i := 15) rfl)))
  have hsz : cl.slots.size = 256 := own_len CA ecA hln
  have hel := own_all CA ecA hsz (Cond.before_iff.mp (hsets _ (List.mem_of_getElem? (i := 16) rfl)))
  obtain ⟨n, o, h1, h2, h3, _, L, rfl, ⟨rfl, N⟩, hq⟩ := rm0 l s _ hw tables_1 i0 i1 i2 i3 i4 z cA cl s.heap s.heap.size (Nat.le_refl _) (Old.start s) SC hz SH SK CA hsz hel p e ha hc hk s m _ below hf ((Spec.applies_iff_loose hf).mp happ).1 ⟨rfl, State.Warmed39.refl s, rfl, trivial⟩ trivial
  refine ⟨n, _, h1, h2, h3, hpost _ _ _ _ _ _ ⟨Cond.after_iff.mpr rfl, Cond.after_iff.mpr (eq_i res_at (Term.int_eval (1)) rfl), trivial⟩ ⟨hq.1, hq.2.1, (hq.2.2.sift fun y hy => Or.inr (N y hy)).mono (by decide) (by decide)⟩⟩
theorem main_1_1 : Claimed_1_1 := comes_1 fun _ _ _ _ _ _ h hF => ⟨h.1, hF⟩
theorem main_1_2 : Claimed_1_2 := comes_1 fun _ _ _ _ _ _ h hF => ⟨h.2.1, hF⟩
end Jvm.Pilot.@@N@@
namespace Jvm.Pilot.@@N@@
open Jvm Jvm.ClassFile Sem Op Lib Jvm.Free Jvm.Stand Jvm.Pilot.@@N@@.Jvm.D
/-! MADE BY PROGRAM (witnessworld.py) out of the Statement's table words and the real class files: 24 classes; the members and pool entries that the words name. The judged class is class 1, her method 1. -/
namespace start1
open Jvm.ClassFile
def u (s : String) : CpInfo := .utf8 (stringToUtf16 s)
/-- a pool by its gaps: so many unusable entries, then the entry; so many at the end -/
def gap : Nat → List CpInfo → List CpInfo
  | 0, r => r
  | n + 1, r => .unusable :: gap n r
def poolList (es : List (Nat × CpInfo)) (last : Nat) : List CpInfo := es.foldr (fun e r => gap e.1 (e.2 :: r)) (gap last [])
def pool (es : List (Nat × CpInfo)) (last : Nat) : Array CpInfo := ⟨poolList es last⟩
def fileOf (pool : Array CpInfo) (this : Nat) (attrs : Array Attribute := #[]) (ms : Array MethodInfo := #[]) (fl : Nat := 33) (sup : Nat := 0) (ifs : Array Nat := #[]) (fds : Array FieldInfo := #[]) : ClassFile where
  minorVersion := 0
  majorVersion := 65
  constantPool := pool
  accessFlags := fl
  thisClass := this
  superClass := sup
  interfaces := ifs
  fields := fds
  methods := ms
  attributes := attrs
def plain (name : String) (sup : Option ClassId) : Class where
  name := name
  kind := .ordinary
  loader := none
  accessFlags := 33
  super := sup
  interfaces := #[]
  cf := none
  fields := #[]
  methods := #[]
  instanceTypes := #[]
  staticTypes := #[]
  resolved := #[]
  callSites := []
  init := .initialized
  statics := none
  mirror := none

def pool0 : Array CpInfo := pool [(5, u "<init>"), (0, u "()V"), (1, .class_ 10), (1, u "java/lang/Object")] 113

def k0c0 : Code := { maxStack := 0, maxLocals := 1, code := object_method_1_code, exceptionTable := #[], attributes := #[] }
def k0m0 : Method := { name := "<init>", desc := "()V", sig := { parameters := [], returnType := none }, accessFlags := 1, code := some k0c0 }
/-- java/lang/Object -/
def k0 : Class := { plain "java/lang/Object" none with
  accessFlags := 33
  interfaces := #[]
  cf := some (fileOf pool0 8 #[] #[{ accessFlags := 1, nameIndex := 5, descriptorIndex := 6, attributes := #[] }] 33 0 #[] #[])
  fields := #[]
  methods := #[k0m0]
  instanceTypes := #[]
  staticTypes := #[]
  resolved := Array.replicate 124 none
  statics := none }

def pool1 : Array CpInfo := pool [(2, .class_ 4), (1, u "java/lang/Object"), (0, u "<init>"), (0, u "()V"), (0, .integer 2147483647), (0, .integer 65535), (0, .class_ 10), (0, u "com/example/minho/minho/core/Address"), (0, .class_ 12), (0, u "java/lang/String"), (0, .methodref 11 14), (0, .nameAndType 5 15), (0, u "([C)V"), (0, .methodref 9 17), (0, .nameAndType 5 18), (0, u "(Ljava/lang/String;I)V"), (0, .methodref 20 21), (0, .class_ 22), (0, .nameAndType 23 24), (0, u "java/lang/Integer"), (0, u "valueOf"), (0, u "(I)Ljava/lang/Integer;"), (0, .methodref 9 26), (0, .nameAndType 27 28), (0, u "equals"), (0, u "(Ljava/lang/Object;)Z"), (0, .class_ 30), (0, u "com/example/minho/minho/core/AddressEqualsPinLaw"), (2, u "law"), (0, u "(IIIII)Z")] 5

def k1m0 : Method := { name := "<init>", desc := "()V", sig := { parameters := [], returnType := none }, accessFlags := 1, code := none }
def k1c1 : Code := { maxStack := 5, maxLocals := 19, code := code, exceptionTable := #[], attributes := #[] }
def k1m1 : Method := { name := "law", desc := "(IIIII)Z", sig := { parameters := [.int, .int, .int, .int, .int], returnType := some .boolean }, accessFlags := 9, code := some k1c1 }
/-- com/example/minho/minho/core/AddressEqualsPinLaw -/
def k1 : Class := { plain "com/example/minho/minho/core/AddressEqualsPinLaw" (some 0) with
  accessFlags := 49
  interfaces := #[]
  cf := some (fileOf pool1 29 #[] #[{ accessFlags := 1, nameIndex := 5, descriptorIndex := 6, attributes := #[] }, { accessFlags := 9, nameIndex := 33, descriptorIndex := 34, attributes := #[] }] 49 2 #[] #[])
  fields := #[]
  methods := #[k1m0, k1m1]
  instanceTypes := #[]
  staticTypes := #[]
  resolved := Array.replicate 40 none
  statics := none }

def pool2 : Array CpInfo := pool [(1, .methodref 2 3), (0, .class_ 4), (0, .nameAndType 5 6), (0, u "java/lang/Object"), (0, u "<init>"), (0, u "()V"), (0, .methodref 8 9), (0, .class_ 10), (0, .nameAndType 11 12), (0, u "java/lang/String"), (0, u "isEmpty"), (0, u "()Z"), (0, .integer 65535), (2, .class_ 17), (0, u "com/example/minho/minho/core/Address"), (5, .fieldref 16 24), (0, .nameAndType 25 26), (0, u "m_host"), (0, u "Ljava/lang/String;"), (0, .fieldref 16 28), (0, .nameAndType 29 30), (0, u "m_port"), (0, u "I"), (32, u "(Ljava/lang/String;I)V"), (18, u "(Ljava/lang/Object;)Z"), (21, .methodref 8 105), (0, .nameAndType 106 82), (0, u "equals"), (20, u "ADDRESS_RULE")] 47

def k2c0 : Code := { maxStack := 3, maxLocals := 3, code := prog_4_method_1_code, exceptionTable := #[], attributes := #[] }
def k2m0 : Method := { name := "<init>", desc := "(Ljava/lang/String;I)V", sig := { parameters := [(.object "java/lang/String"), .int], returnType := none }, accessFlags := 1, code := some k2c0 }
def k2c1 : Code := { maxStack := 2, maxLocals := 3, code := prog_4_method_7_code, exceptionTable := #[], attributes := #[] }
def k2m1 : Method := { name := "equals", desc := "(Ljava/lang/Object;)Z", sig := { parameters := [(.object "java/lang/Object")], returnType := some .boolean }, accessFlags := 1, code := some k2c1 }
/-- com/example/minho/minho/core/Address -/
def k2 : Class := { plain "com/example/minho/minho/core/Address" (some 0) with
  accessFlags := 33
  interfaces := #[]
  cf := some (fileOf pool2 16 #[] #[{ accessFlags := 1, nameIndex := 5, descriptorIndex := 63, attributes := #[] }, { accessFlags := 1, nameIndex := 106, descriptorIndex := 82, attributes := #[] }] 33 2 #[] #[{ accessFlags := 26, nameIndex := 127, descriptorIndex := 26, attributes := #[] }, { accessFlags := 18, nameIndex := 25, descriptorIndex := 26, attributes := #[] }, { accessFlags := 18, nameIndex := 29, descriptorIndex := 30, attributes := #[] }])
  fields := #[{ name := "ADDRESS_RULE", type := (.object "java/lang/String"), accessFlags := 26, slot := 0, constantValue := 0 }, { name := "m_host", type := (.object "java/lang/String"), accessFlags := 18, slot := 0, constantValue := 0 }, { name := "m_port", type := .int, accessFlags := 18, slot := 1, constantValue := 0 }]
  methods := #[k2m0, k2m1]
  instanceTypes := #[(.object "java/lang/String"), .int]
  staticTypes := #[(.object "java/lang/String")]
  resolved := Array.replicate 175 none
  statics := none }

def pool3 : Array CpInfo := pool [(1, .class_ 2), (0, u "java/io/Serializable"), (0, .class_ 4), (0, u "java/lang/Object")] 2

/-- java/io/Serializable -/
def k3 : Class := { plain "java/io/Serializable" (some 0) with
  accessFlags := 1537
  interfaces := #[]
  cf := some (fileOf pool3 1 #[] #[] 1537 3 #[] #[])
  fields := #[]
  methods := #[]
  instanceTypes := #[]
  staticTypes := #[]
  resolved := Array.replicate 7 none
  statics := none }

def pool4 : Array CpInfo := pool [(1, .class_ 2), (0, u "java/lang/Comparable"), (0, .class_ 4), (0, u "java/lang/Object")] 7

/-- java/lang/Comparable -/
def k4 : Class := { plain "java/lang/Comparable" (some 0) with
  accessFlags := 1537
  interfaces := #[]
  cf := some (fileOf pool4 1 #[] #[] 1537 3 #[] #[])
  fields := #[]
  methods := #[]
  instanceTypes := #[]
  staticTypes := #[]
  resolved := Array.replicate 12 none
  statics := none }

def pool5 : Array CpInfo := pool [(2, .class_ 4), (1, u "java/lang/CharSequence"), (42, .class_ 48), (0, u "java/lang/CharSequence$1CodePointIterator"), (10, .class_ 60), (0, u "java/lang/CharSequence$1CharIterator"), (5, .class_ 67), (0, u "java/lang/Object")] 63

/-- java/lang/CharSequence -/
def k5 : Class := { plain "java/lang/CharSequence" (some 0) with
  accessFlags := 1537
  interfaces := #[]
  cf := some (fileOf pool5 2 #[.nestMembers #[47, 59]] #[] 1537 66 #[] #[])
  fields := #[]
  methods := #[]
  instanceTypes := #[]
  staticTypes := #[]
  resolved := Array.replicate 131 none
  statics := none }

def pool6 : Array CpInfo := pool [(1, .class_ 2), (0, u "java/lang/constant/Constable"), (0, .class_ 4), (0, u "java/lang/Object")] 6

/-- java/lang/constant/Constable -/
def k6 : Class := { plain "java/lang/constant/Constable" (some 0) with
  accessFlags := 1537
  interfaces := #[]
  cf := some (fileOf pool6 1 #[] #[] 1537 3 #[] #[])
  fields := #[]
  methods := #[]
  instanceTypes := #[]
  staticTypes := #[]
  resolved := Array.replicate 11 none
  statics := none }

def pool7 : Array CpInfo := pool [(1, .class_ 2), (0, u "java/lang/constant/ConstantDesc"), (0, .class_ 4), (0, u "java/lang/Object")] 32

/-- java/lang/constant/ConstantDesc -/
def k7 : Class := { plain "java/lang/constant/ConstantDesc" (some 0) with
  accessFlags := 1537
  interfaces := #[]
  cf := some (fileOf pool7 1 #[] #[] 1537 3 #[] #[])
  fields := #[]
  methods := #[]
  instanceTypes := #[]
  staticTypes := #[]
  resolved := Array.replicate 37 none
  statics := none }

def pool8 : Array CpInfo := pool [(1, .methodref 2 3), (0, .class_ 4), (0, .nameAndType 5 6), (0, u "java/lang/Object"), (0, u "<init>"), (0, u "()V"), (2, .fieldref 10 11), (0, .class_ 12), (0, .nameAndType 13 14), (0, u "java/lang/String"), (0, u "value"), (0, u "[B"), (0, .fieldref 10 16), (0, .nameAndType 17 18), (0, u "coder"), (0, u "B"), (2, u "hash"), (0, u "I"), (2, u "hashIsZero"), (0, u "Z"), (0, .methodref 10 28), (0, .nameAndType 5 29), (0, u "([CIILjava/lang/Void;)V"), (8, .fieldref 10 39), (0, .nameAndType 40 26), (0, u "COMPACT_STRINGS"), (1, .class_ 44), (1, u "java/lang/StringUTF16"), (0, u "compress"), (1, .methodref 42 48), (0, .nameAndType 49 50), (0, u "coderFromArrayLen"), (0, u "([BI)B"), (56, .class_ 109), (1, u "java/lang/StringLatin1"), (32, u "()Z"), (34, .methodref 42 178), (0, .nameAndType 45 179), (0, u "([CII)[B"), (361, .methodref 107 542), (0, .nameAndType 543 544), (0, u "equals"), (0, u "([B[B)Z"), (28, u "(Ljava/lang/Object;)Z"), (1, .class_ 576), (0, u "java/lang/CharSequence"), (22, u "CASE_INSENSITIVE_ORDER"), (0, u "Ljava/util/Comparator;"), (91, u "isEmpty"), (317, u "([C)V"), (90, u "serialPersistentFields"), (0, u "[Ljava/io/ObjectStreamField;"), (0, .class_ 1104), (0, u "java/lang/String$CaseInsensitiveComparator"), (1, .class_ 1107), (0, u "java/io/Serializable"), (0, .class_ 1109), (0, u "java/lang/Comparable"), (0, .class_ 1111), (0, u "java/lang/constant/Constable"), (0, .class_ 1113), (0, u "java/lang/constant/ConstantDesc"), (2, u "serialVersionUID"), (0, u "J"), (3, u "REPL"), (0, u "C"), (2, u "LATIN1"), (1, u "UTF16")] 323

def k8m0 : Method := { name := "<init>", desc := "()V", sig := { parameters := [], returnType := none }, accessFlags := 1, code := none }
def k8c1 : Code := { maxStack := 5, maxLocals := 2, code := jdk_42_method_3_code, exceptionTable := #[], attributes := #[] }
def k8m1 : Method := { name := "<init>", desc := "([C)V", sig := { parameters := [(.array .char)], returnType := none }, accessFlags := 1, code := some k8c1 }
def k8c2 : Code := { maxStack := 1, maxLocals := 1, code := jdk_42_method_55_code, exceptionTable := #[], attributes := #[] }
def k8m2 : Method := { name := "isEmpty", desc := "()Z", sig := { parameters := [], returnType := some .boolean }, accessFlags := 1, code := some k8c2 }
def k8c3 : Code := { maxStack := 2, maxLocals := 3, code := jdk_42_method_66_code, exceptionTable := #[], attributes := #[] }
def k8m3 : Method := { name := "equals", desc := "(Ljava/lang/Object;)Z", sig := { parameters := [(.object "java/lang/Object")], returnType := some .boolean }, accessFlags := 1, code := some k8c3 }
def k8c4 : Code := { maxStack := 4, maxLocals := 6, code := jdk_42_method_149_code, exceptionTable := #[], attributes := #[] }
def k8m4 : Method := { name := "<init>", desc := "([CIILjava/lang/Void;)V", sig := { parameters := [(.array .char), .int, .int, (.object "java/lang/Void")], returnType := none }, accessFlags := 2, code := some k8c4 }
/-- java/lang/String -/
def k8 : Class := { plain "java/lang/String" (some 0) with
  accessFlags := 49
  interfaces := #[3, 4, 5, 6, 7]
  cf := some (fileOf pool8 10 #[.nestMembers #[1103]] #[{ accessFlags := 1, nameIndex := 5, descriptorIndex := 6, attributes := #[] }, { accessFlags := 1, nameIndex := 5, descriptorIndex := 1010, attributes := #[] }, { accessFlags := 1, nameIndex := 692, descriptorIndex := 142, attributes := #[] }, { accessFlags := 1, nameIndex := 543, descriptorIndex := 573, attributes := #[] }, { accessFlags := 2, nameIndex := 5, descriptorIndex := 29, attributes := #[] }] 49 2 #[1106, 1108, 575, 1110, 1112] #[{ accessFlags := 18, nameIndex := 13, descriptorIndex := 14, attributes := #[] }, { accessFlags := 18, nameIndex := 17, descriptorIndex := 18, attributes := #[] }, { accessFlags := 2, nameIndex := 21, descriptorIndex := 22, attributes := #[] }, { accessFlags := 2, nameIndex := 25, descriptorIndex := 26, attributes := #[] }, { accessFlags := 26, nameIndex := 1116, descriptorIndex := 1117, attributes := #[] }, { accessFlags := 24, nameIndex := 40, descriptorIndex := 26, attributes := #[] }, { accessFlags := 26, nameIndex := 1101, descriptorIndex := 1102, attributes := #[] }, { accessFlags := 26, nameIndex := 1121, descriptorIndex := 1122, attributes := #[] }, { accessFlags := 25, nameIndex := 599, descriptorIndex := 600, attributes := #[] }, { accessFlags := 24, nameIndex := 1125, descriptorIndex := 18, attributes := #[] }, { accessFlags := 24, nameIndex := 1127, descriptorIndex := 18, attributes := #[] }])
  fields := #[{ name := "value", type := (.array .byte), accessFlags := 18, slot := 0, constantValue := 0 }, { name := "coder", type := .byte, accessFlags := 18, slot := 1, constantValue := 0 }, { name := "hash", type := .int, accessFlags := 2, slot := 2, constantValue := 0 }, { name := "hashIsZero", type := .boolean, accessFlags := 2, slot := 3, constantValue := 0 }, { name := "serialVersionUID", type := .long, accessFlags := 26, slot := 0, constantValue := 0 }, { name := "COMPACT_STRINGS", type := .boolean, accessFlags := 24, slot := 1, constantValue := 0 }, { name := "serialPersistentFields", type := (.array (.object "java/io/ObjectStreamField")), accessFlags := 26, slot := 2, constantValue := 0 }, { name := "REPL", type := .char, accessFlags := 26, slot := 3, constantValue := 0 }, { name := "CASE_INSENSITIVE_ORDER", type := (.object "java/util/Comparator"), accessFlags := 25, slot := 4, constantValue := 0 }, { name := "LATIN1", type := .byte, accessFlags := 24, slot := 5, constantValue := 0 }, { name := "UTF16", type := .byte, accessFlags := 24, slot := 6, constantValue := 0 }]
  methods := #[k8m0, k8m1, k8m2, k8m3, k8m4]
  instanceTypes := #[(.array .byte), .byte, .int, .boolean]
  staticTypes := #[.long, .boolean, (.array (.object "java/io/ObjectStreamField")), .char, (.object "java/util/Comparator"), .byte, .byte]
  resolved := Array.replicate 1451 none
  statics := some 0 }

def pool9 : Array CpInfo := pool [(6, .class_ 8), (1, u "java/lang/Object"), (0, u "<init>"), (0, u "()V"), (1, .class_ 14), (1, u "java/lang/StringUTF16"), (31, u "$assertionsDisabled"), (0, u "Z"), (13, u "HI_BYTE_SHIFT"), (0, u "I"), (2, u "LO_BYTE_SHIFT"), (49, .methodref 12 116), (0, .nameAndType 117 118), (0, u "compress"), (0, u "([CI[BII)I"), (3, u "([CII)[B"), (138, u "coderFromArrayLen"), (0, u "([BI)B"), (106, .class_ 371), (1, u "java/lang/StringUTF16$LinesSpliterator"), (58, u "MAX_LENGTH"), (196, .class_ 628), (0, u "java/lang/StringUTF16$CodePointsSpliterator"), (0, .class_ 630), (0, u "java/lang/StringUTF16$CharsSpliterator")] 4

def k9m0 : Method := { name := "<init>", desc := "()V", sig := { parameters := [], returnType := none }, accessFlags := 0, code := none }
def k9c1 : Code := { maxStack := 2, maxLocals := 2, code := jdk_52_method_15_code, exceptionTable := #[], attributes := #[] }
def k9m1 : Method := { name := "coderFromArrayLen", desc := "([BI)B", sig := { parameters := [(.array .byte), .int], returnType := some .byte }, accessFlags := 8, code := some k9c1 }
def k9c2 : Code := { maxStack := 5, maxLocals := 6, code := jdk_52_method_16_code, exceptionTable := #[], attributes := #[] }
def k9m2 : Method := { name := "compress", desc := "([CII)[B", sig := { parameters := [(.array .char), .int, .int], returnType := some (.array .byte) }, accessFlags := 9, code := some k9c2 }
def k9c3 : Code := { maxStack := 3, maxLocals := 7, code := jdk_52_method_21_code, exceptionTable := #[], attributes := #[] }
def k9m3 : Method := { name := "compress", desc := "([CI[BII)I", sig := { parameters := [(.array .char), .int, (.array .byte), .int, .int], returnType := some .int }, accessFlags := 9, code := some k9c3 }
/-- java/lang/StringUTF16 -/
def k9 : Class := { plain "java/lang/StringUTF16" (some 0) with
  accessFlags := 48
  interfaces := #[]
  cf := some (fileOf pool9 12 #[.nestMembers #[627, 629, 369]] #[{ accessFlags := 0, nameIndex := 9, descriptorIndex := 10, attributes := #[] }, { accessFlags := 8, nameIndex := 261, descriptorIndex := 262, attributes := #[] }, { accessFlags := 9, nameIndex := 117, descriptorIndex := 122, attributes := #[] }, { accessFlags := 9, nameIndex := 117, descriptorIndex := 118, attributes := #[] }] 48 6 #[] #[{ accessFlags := 26, nameIndex := 61, descriptorIndex := 62, attributes := #[] }, { accessFlags := 26, nameIndex := 65, descriptorIndex := 62, attributes := #[] }, { accessFlags := 24, nameIndex := 430, descriptorIndex := 62, attributes := #[] }, { accessFlags := 4120, nameIndex := 46, descriptorIndex := 47, attributes := #[] }])
  fields := #[{ name := "HI_BYTE_SHIFT", type := .int, accessFlags := 26, slot := 0, constantValue := 0 }, { name := "LO_BYTE_SHIFT", type := .int, accessFlags := 26, slot := 1, constantValue := 0 }, { name := "MAX_LENGTH", type := .int, accessFlags := 24, slot := 2, constantValue := 0 }, { name := "$assertionsDisabled", type := .boolean, accessFlags := 4120, slot := 3, constantValue := 0 }]
  methods := #[k9m0, k9m1, k9m2, k9m3]
  instanceTypes := #[]
  staticTypes := #[.int, .int, .int, .boolean]
  resolved := Array.replicate 635 none
  statics := none }

def pool10 : Array CpInfo := pool [(1, .methodref 2 3), (0, .class_ 4), (0, .nameAndType 5 6), (0, u "java/lang/Object"), (0, u "<init>"), (0, u "()V"), (1, .class_ 10), (1, u "java/lang/Number"), (2, .class_ 14), (0, u "java/io/Serializable"), (0, u "serialVersionUID"), (0, u "J")] 20

def k10c0 : Code := { maxStack := 1, maxLocals := 1, code := jdk_18_method_1_code, exceptionTable := #[], attributes := #[] }
def k10m0 : Method := { name := "<init>", desc := "()V", sig := { parameters := [], returnType := none }, accessFlags := 1, code := some k10c0 }
/-- java/lang/Number -/
def k10 : Class := { plain "java/lang/Number" (some 0) with
  accessFlags := 1057
  interfaces := #[3]
  cf := some (fileOf pool10 8 #[] #[{ accessFlags := 1, nameIndex := 5, descriptorIndex := 6, attributes := #[] }] 1057 2 #[13] #[{ accessFlags := 26, nameIndex := 15, descriptorIndex := 16, attributes := #[] }])
  fields := #[{ name := "serialVersionUID", type := .long, accessFlags := 26, slot := 0, constantValue := 0 }]
  methods := #[k10m0]
  instanceTypes := #[]
  staticTypes := #[.long]
  resolved := Array.replicate 37 none
  statics := none }

def pool11 : Array CpInfo := pool [(1, .class_ 2), (0, u "java/lang/Integer"), (16, u "digits"), (0, u "[C"), (46, u "<init>"), (17, u "DigitOnes"), (0, u "[B"), (2, u "DigitTens"), (10, .nameAndType 67 101), (0, u "()V"), (85, u "valueOf"), (0, u "(I)Ljava/lang/Integer;"), (0, .class_ 190), (0, u "java/lang/Integer$IntegerCache"), (0, .fieldref 189 192), (0, .nameAndType 193 194), (0, u "high"), (0, u "I"), (0, .fieldref 189 196), (0, .nameAndType 197 198), (0, u "cache"), (0, u "[Ljava/lang/Integer;"), (0, .methodref 1 200), (0, .nameAndType 67 201), (0, u "(I)V"), (0, .methodref 203 100), (0, .class_ 204), (0, u "java/lang/Number"), (0, .fieldref 1 206), (0, .nameAndType 207 194), (0, u "value"), (94, u "TYPE"), (0, u "Ljava/lang/Class;"), (0, .class_ 305), (0, u "java/lang/Comparable"), (0, .class_ 307), (0, u "java/lang/constant/Constable"), (0, .class_ 309), (0, u "java/lang/constant/ConstantDesc"), (0, u "MIN_VALUE"), (1, u "MAX_VALUE"), (3, u "SIZE"), (1, u "BYTES"), (1, u "serialVersionUID"), (0, u "J")] 131

def k11c0 : Code := { maxStack := 3, maxLocals := 1, code := jdk_33_method_22_code, exceptionTable := #[], attributes := #[] }
def k11m0 : Method := { name := "valueOf", desc := "(I)Ljava/lang/Integer;", sig := { parameters := [.int], returnType := some (.object "java/lang/Integer") }, accessFlags := 9, code := some k11c0 }
def k11c1 : Code := { maxStack := 2, maxLocals := 2, code := jdk_33_method_23_code, exceptionTable := #[], attributes := #[] }
def k11m1 : Method := { name := "<init>", desc := "(I)V", sig := { parameters := [.int], returnType := none }, accessFlags := 1, code := some k11c1 }
/-- java/lang/Integer -/
def k11 : Class := { plain "java/lang/Integer" (some 10) with
  accessFlags := 49
  interfaces := #[4, 6, 7]
  cf := some (fileOf pool11 1 #[.nestMembers #[189]] #[{ accessFlags := 9, nameIndex := 187, descriptorIndex := 188, attributes := #[] }, { accessFlags := 1, nameIndex := 67, descriptorIndex := 201, attributes := #[] }] 49 203 #[304, 306, 308] #[{ accessFlags := 25, nameIndex := 310, descriptorIndex := 194, attributes := #[] }, { accessFlags := 25, nameIndex := 312, descriptorIndex := 194, attributes := #[] }, { accessFlags := 25, nameIndex := 302, descriptorIndex := 303, attributes := #[] }, { accessFlags := 24, nameIndex := 19, descriptorIndex := 20, attributes := #[] }, { accessFlags := 24, nameIndex := 89, descriptorIndex := 86, attributes := #[] }, { accessFlags := 24, nameIndex := 85, descriptorIndex := 86, attributes := #[] }, { accessFlags := 18, nameIndex := 207, descriptorIndex := 194, attributes := #[] }, { accessFlags := 25, nameIndex := 316, descriptorIndex := 194, attributes := #[] }, { accessFlags := 25, nameIndex := 318, descriptorIndex := 194, attributes := #[] }, { accessFlags := 26, nameIndex := 320, descriptorIndex := 321, attributes := #[] }])
  fields := #[{ name := "MIN_VALUE", type := .int, accessFlags := 25, slot := 0, constantValue := 0 }, { name := "MAX_VALUE", type := .int, accessFlags := 25, slot := 1, constantValue := 0 }, { name := "TYPE", type := (.object "java/lang/Class"), accessFlags := 25, slot := 2, constantValue := 0 }, { name := "digits", type := (.array .char), accessFlags := 24, slot := 3, constantValue := 0 }, { name := "DigitTens", type := (.array .byte), accessFlags := 24, slot := 4, constantValue := 0 }, { name := "DigitOnes", type := (.array .byte), accessFlags := 24, slot := 5, constantValue := 0 }, { name := "value", type := .int, accessFlags := 18, slot := 0, constantValue := 0 }, { name := "SIZE", type := .int, accessFlags := 25, slot := 6, constantValue := 0 }, { name := "BYTES", type := .int, accessFlags := 25, slot := 7, constantValue := 0 }, { name := "serialVersionUID", type := .long, accessFlags := 26, slot := 8, constantValue := 0 }]
  methods := #[k11m0, k11m1]
  instanceTypes := #[.int]
  staticTypes := #[.int, .int, (.object "java/lang/Class"), (.array .char), (.array .byte), (.array .byte), .int, .int, .long]
  resolved := Array.replicate 453 none
  statics := none }

def pool12 : Array CpInfo := pool [(2, .class_ 4), (1, u "java/lang/Object"), (0, u "<init>"), (0, u "()V"), (0, .class_ 8), (0, u "java/lang/Integer"), (7, .class_ 18), (1, u "java/lang/Integer$IntegerCache"), (0, u "$assertionsDisabled"), (0, u "Z"), (26, u "high"), (0, u "I"), (8, u "archivedCache"), (0, u "[Ljava/lang/Integer;"), (12, u "cache"), (0, u "low")] 27

def k12m0 : Method := { name := "<init>", desc := "()V", sig := { parameters := [], returnType := none }, accessFlags := 2, code := none }
/-- java/lang/Integer$IntegerCache -/
def k12 : Class := { plain "java/lang/Integer$IntegerCache" (some 0) with
  accessFlags := 48
  interfaces := #[]
  cf := some (fileOf pool12 16 #[.nestHost 7] #[{ accessFlags := 2, nameIndex := 5, descriptorIndex := 6, attributes := #[] }] 48 2 #[] #[{ accessFlags := 24, nameIndex := 72, descriptorIndex := 48, attributes := #[] }, { accessFlags := 24, nameIndex := 47, descriptorIndex := 48, attributes := #[] }, { accessFlags := 24, nameIndex := 71, descriptorIndex := 58, attributes := #[] }, { accessFlags := 8, nameIndex := 57, descriptorIndex := 58, attributes := #[] }, { accessFlags := 4120, nameIndex := 19, descriptorIndex := 20, attributes := #[] }])
  fields := #[{ name := "low", type := .int, accessFlags := 24, slot := 0, constantValue := 0 }, { name := "high", type := .int, accessFlags := 24, slot := 1, constantValue := 0 }, { name := "cache", type := (.array (.object "java/lang/Integer")), accessFlags := 24, slot := 2, constantValue := 0 }, { name := "archivedCache", type := (.array (.object "java/lang/Integer")), accessFlags := 8, slot := 3, constantValue := 0 }, { name := "$assertionsDisabled", type := .boolean, accessFlags := 4120, slot := 4, constantValue := 0 }]
  methods := #[k12m0]
  instanceTypes := #[]
  staticTypes := #[.int, .int, (.array (.object "java/lang/Integer")), (.array (.object "java/lang/Integer")), .boolean]
  resolved := Array.replicate 100 none
  statics := some 1 }

def pool13 : Array CpInfo := pool [(4, .class_ 6), (1, u "java/lang/Object"), (0, u "<init>"), (0, u "()V"), (5, .class_ 16), (1, u "java/lang/StringLatin1"), (104, u "$assertionsDisabled"), (0, u "Z"), (98, .class_ 223), (1, u "java/lang/StringLatin1$LinesSpliterator"), (57, u "equals"), (0, u "([B[B)Z"), (107, .class_ 391), (0, u "java/lang/StringLatin1$CharsSpliterator")] 3

def k13m0 : Method := { name := "<init>", desc := "()V", sig := { parameters := [], returnType := none }, accessFlags := 0, code := none }
def k13c1 : Code := { maxStack := 3, maxLocals := 3, code := jdk_43_method_13_code, exceptionTable := #[], attributes := #[] }
def k13m1 : Method := { name := "equals", desc := "([B[B)Z", sig := { parameters := [(.array .byte), (.array .byte)], returnType := some .boolean }, accessFlags := 9, code := some k13c1 }
/-- java/lang/StringLatin1 -/
def k13 : Class := { plain "java/lang/StringLatin1" (some 0) with
  accessFlags := 48
  interfaces := #[]
  cf := some (fileOf pool13 14 #[.nestMembers #[390, 221]] #[{ accessFlags := 0, nameIndex := 7, descriptorIndex := 8, attributes := #[] }, { accessFlags := 9, nameIndex := 281, descriptorIndex := 282, attributes := #[] }] 48 4 #[] #[{ accessFlags := 4120, nameIndex := 121, descriptorIndex := 122, attributes := #[] }])
  fields := #[{ name := "$assertionsDisabled", type := .boolean, accessFlags := 4120, slot := 0, constantValue := 0 }]
  methods := #[k13m0, k13m1]
  instanceTypes := #[]
  staticTypes := #[.boolean]
  resolved := Array.replicate 395 none
  statics := none }

def pool14 : Array CpInfo := pool [(2, .class_ 4), (1, u "java/lang/Object"), (0, u "<init>"), (0, u "()V"), (17, .class_ 26), (1, u "jdk/internal/util/Preconditions"), (28, .class_ 56), (0, u "jdk/internal/util/Preconditions$4"), (57, .class_ 115), (0, u "jdk/internal/util/Preconditions$1"), (7, u "SIOOBE_FORMATTER"), (0, u "Ljava/util/function/BiFunction;"), (0, .class_ 126), (0, u "jdk/internal/util/Preconditions$2"), (3, u "AIOOBE_FORMATTER"), (0, .class_ 132), (0, u "jdk/internal/util/Preconditions$3"), (3, u "IOOBE_FORMATTER")] 57

def k14m0 : Method := { name := "<init>", desc := "()V", sig := { parameters := [], returnType := none }, accessFlags := 1, code := none }
/-- jdk/internal/util/Preconditions -/
def k14 : Class := { plain "jdk/internal/util/Preconditions" (some 0) with
  accessFlags := 33
  interfaces := #[]
  cf := some (fileOf pool14 24 #[.nestMembers #[55, 131, 125, 114]] #[{ accessFlags := 1, nameIndex := 5, descriptorIndex := 6, attributes := #[] }] 33 2 #[] #[{ accessFlags := 25, nameIndex := 123, descriptorIndex := 124, attributes := #[] }, { accessFlags := 25, nameIndex := 130, descriptorIndex := 124, attributes := #[] }, { accessFlags := 25, nameIndex := 136, descriptorIndex := 124, attributes := #[] }])
  fields := #[{ name := "SIOOBE_FORMATTER", type := (.object "java/util/function/BiFunction"), accessFlags := 25, slot := 0, constantValue := 0 }, { name := "AIOOBE_FORMATTER", type := (.object "java/util/function/BiFunction"), accessFlags := 25, slot := 1, constantValue := 0 }, { name := "IOOBE_FORMATTER", type := (.object "java/util/function/BiFunction"), accessFlags := 25, slot := 2, constantValue := 0 }]
  methods := #[k14m0]
  instanceTypes := #[]
  staticTypes := #[(.object "java/util/function/BiFunction"), (.object "java/util/function/BiFunction"), (.object "java/util/function/BiFunction")]
  resolved := Array.replicate 194 none
  statics := some 2 }

def pool15 : Array CpInfo := pool [(9, u "<init>"), (6, .class_ 18), (1, u "java/lang/Object"), (0, u "()V"), (1, .class_ 23), (1, u "jdk/internal/util/ArraysSupport"), (0, u "LOG2_ARRAY_LONG_INDEX_SCALE"), (0, u "I"), (2, u "U"), (0, u "Ljdk/internal/misc/Unsafe;"), (8, u "BIG_ENDIAN"), (0, u "Z"), (8, u "LOG2_BYTE_BIT_SIZE"), (4, u "LOG2_ARRAY_INT_INDEX_SCALE"), (54, u "JLA"), (0, u "Ljdk/internal/access/JavaLangAccess;"), (11, u "LOG2_ARRAY_BOOLEAN_INDEX_SCALE"), (9, u "LOG2_ARRAY_BYTE_INDEX_SCALE"), (5, u "LOG2_ARRAY_CHAR_INDEX_SCALE"), (5, u "LOG2_ARRAY_SHORT_INDEX_SCALE"), (18, u "LOG2_ARRAY_FLOAT_INDEX_SCALE"), (24, u "LOG2_ARRAY_DOUBLE_INDEX_SCALE"), (89, u "T_BOOLEAN"), (2, u "T_CHAR"), (1, u "T_FLOAT"), (1, u "T_DOUBLE"), (1, u "T_BYTE"), (1, u "T_SHORT"), (1, u "T_INT"), (1, u "T_LONG"), (1, u "SOFT_MAX_ARRAY_LENGTH")] 83

def k15m0 : Method := { name := "<init>", desc := "()V", sig := { parameters := [], returnType := none }, accessFlags := 2, code := none }
/-- jdk/internal/util/ArraysSupport -/
def k15 : Class := { plain "jdk/internal/util/ArraysSupport" (some 0) with
  accessFlags := 33
  interfaces := #[]
  cf := some (fileOf pool15 21 #[] #[{ accessFlags := 2, nameIndex := 9, descriptorIndex := 19, attributes := #[] }] 33 16 #[] #[{ accessFlags := 24, nameIndex := 28, descriptorIndex := 29, attributes := #[] }, { accessFlags := 26, nameIndex := 38, descriptorIndex := 39, attributes := #[] }, { accessFlags := 25, nameIndex := 121, descriptorIndex := 25, attributes := #[] }, { accessFlags := 25, nameIndex := 131, descriptorIndex := 25, attributes := #[] }, { accessFlags := 25, nameIndex := 137, descriptorIndex := 25, attributes := #[] }, { accessFlags := 25, nameIndex := 143, descriptorIndex := 25, attributes := #[] }, { accessFlags := 25, nameIndex := 53, descriptorIndex := 25, attributes := #[] }, { accessFlags := 25, nameIndex := 24, descriptorIndex := 25, attributes := #[] }, { accessFlags := 25, nameIndex := 162, descriptorIndex := 25, attributes := #[] }, { accessFlags := 25, nameIndex := 187, descriptorIndex := 25, attributes := #[] }, { accessFlags := 26, nameIndex := 48, descriptorIndex := 25, attributes := #[] }, { accessFlags := 25, nameIndex := 277, descriptorIndex := 25, attributes := #[] }, { accessFlags := 25, nameIndex := 280, descriptorIndex := 25, attributes := #[] }, { accessFlags := 25, nameIndex := 282, descriptorIndex := 25, attributes := #[] }, { accessFlags := 25, nameIndex := 284, descriptorIndex := 25, attributes := #[] }, { accessFlags := 25, nameIndex := 286, descriptorIndex := 25, attributes := #[] }, { accessFlags := 25, nameIndex := 288, descriptorIndex := 25, attributes := #[] }, { accessFlags := 25, nameIndex := 290, descriptorIndex := 25, attributes := #[] }, { accessFlags := 25, nameIndex := 292, descriptorIndex := 25, attributes := #[] }, { accessFlags := 26, nameIndex := 108, descriptorIndex := 109, attributes := #[] }, { accessFlags := 25, nameIndex := 294, descriptorIndex := 25, attributes := #[] }])
  fields := #[{ name := "U", type := (.object "jdk/internal/misc/Unsafe"), accessFlags := 24, slot := 0, constantValue := 0 }, { name := "BIG_ENDIAN", type := .boolean, accessFlags := 26, slot := 1, constantValue := 0 }, { name := "LOG2_ARRAY_BOOLEAN_INDEX_SCALE", type := .int, accessFlags := 25, slot := 2, constantValue := 0 }, { name := "LOG2_ARRAY_BYTE_INDEX_SCALE", type := .int, accessFlags := 25, slot := 3, constantValue := 0 }, { name := "LOG2_ARRAY_CHAR_INDEX_SCALE", type := .int, accessFlags := 25, slot := 4, constantValue := 0 }, { name := "LOG2_ARRAY_SHORT_INDEX_SCALE", type := .int, accessFlags := 25, slot := 5, constantValue := 0 }, { name := "LOG2_ARRAY_INT_INDEX_SCALE", type := .int, accessFlags := 25, slot := 6, constantValue := 0 }, { name := "LOG2_ARRAY_LONG_INDEX_SCALE", type := .int, accessFlags := 25, slot := 7, constantValue := 0 }, { name := "LOG2_ARRAY_FLOAT_INDEX_SCALE", type := .int, accessFlags := 25, slot := 8, constantValue := 0 }, { name := "LOG2_ARRAY_DOUBLE_INDEX_SCALE", type := .int, accessFlags := 25, slot := 9, constantValue := 0 }, { name := "LOG2_BYTE_BIT_SIZE", type := .int, accessFlags := 26, slot := 10, constantValue := 0 }, { name := "T_BOOLEAN", type := .int, accessFlags := 25, slot := 11, constantValue := 0 }, { name := "T_CHAR", type := .int, accessFlags := 25, slot := 12, constantValue := 0 }, { name := "T_FLOAT", type := .int, accessFlags := 25, slot := 13, constantValue := 0 }, { name := "T_DOUBLE", type := .int, accessFlags := 25, slot := 14, constantValue := 0 }, { name := "T_BYTE", type := .int, accessFlags := 25, slot := 15, constantValue := 0 }, { name := "T_SHORT", type := .int, accessFlags := 25, slot := 16, constantValue := 0 }, { name := "T_INT", type := .int, accessFlags := 25, slot := 17, constantValue := 0 }, { name := "T_LONG", type := .int, accessFlags := 25, slot := 18, constantValue := 0 }, { name := "JLA", type := (.object "jdk/internal/access/JavaLangAccess"), accessFlags := 26, slot := 19, constantValue := 0 }, { name := "SOFT_MAX_ARRAY_LENGTH", type := .int, accessFlags := 25, slot := 20, constantValue := 0 }]
  methods := #[k15m0]
  instanceTypes := #[]
  staticTypes := #[(.object "jdk/internal/misc/Unsafe"), .boolean, .int, .int, .int, .int, .int, .int, .int, .int, .int, .int, .int, .int, .int, .int, .int, .int, .int, (.object "jdk/internal/access/JavaLangAccess"), .int]
  resolved := Array.replicate 378 none
  statics := none }

def pool16 : Array CpInfo := pool [(1, u "java/lang/Cloneable"), (0, .class_ 1), (0, u "java/lang/Object"), (0, .class_ 3)] 3

/-- java/lang/Cloneable -/
def k16 : Class := { plain "java/lang/Cloneable" (some 0) with
  accessFlags := 1537
  interfaces := #[]
  cf := some (fileOf pool16 2 #[] #[] 1537 4 #[] #[])
  fields := #[]
  methods := #[]
  instanceTypes := #[]
  staticTypes := #[]
  resolved := Array.replicate 8 none
  statics := none }

/-- the primitive byte -/
def k17 : Class := { plain "byte" none with kind := .primitive 'B', accessFlags := 0x411 }
/-- [B -/
def k18 : Class := { plain "[B" (some 0) with kind := .array 17 .byte, interfaces := #[16, 3], accessFlags := 1041 }

/-- the primitive char -/
def k19 : Class := { plain "char" none with kind := .primitive 'C', accessFlags := 0x411 }
/-- [C -/
def k20 : Class := { plain "[C" (some 0) with kind := .array 19 .char, interfaces := #[16, 3], accessFlags := 1041 }

/-- the primitive int -/
def k21 : Class := { plain "int" none with kind := .primitive 'I', accessFlags := 0x411 }
/-- [I -/
def k22 : Class := { plain "[I" (some 0) with kind := .array 21 .int, interfaces := #[16, 3], accessFlags := 1041 }

/-- [Ljava/lang/Integer; -/
def k23 : Class := { plain "[Ljava/lang/Integer;" (some 0) with kind := .array 11 (.object "java/lang/Integer"), interfaces := #[16, 3], accessFlags := 1041 }

def heap : Heap := #[{ cls := 8, slots := #[.long 0, .int 1, .null, .int 0, .null, .int 0, .int 0], vm := .statics 8 },
  { cls := 12, slots := #[.int 0, .int 127, .ref 3, .null, .int 0], vm := .statics 12 },
  { cls := 14, slots := #[.null, .null, .null], vm := .statics 14 },
  { cls := 23, slots := #[.ref 4, .ref 5, .ref 6, .ref 7, .ref 8, .ref 9, .ref 10, .ref 11, .ref 12, .ref 13, .ref 14, .ref 15, .ref 16, .ref 17, .ref 18, .ref 19, .ref 20, .ref 21, .ref 22, .ref 23, .ref 24, .ref 25, .ref 26, .ref 27, .ref 28, .ref 29, .ref 30, .ref 31, .ref 32, .ref 33, .ref 34, .ref 35, .ref 36, .ref 37, .ref 38, .ref 39, .ref 40, .ref 41, .ref 42, .ref 43, .ref 44, .ref 45, .ref 46, .ref 47, .ref 48, .ref 49, .ref 50, .ref 51, .ref 52, .ref 53, .ref 54, .ref 55, .ref 56, .ref 57, .ref 58, .ref 59, .ref 60, .ref 61, .ref 62, .ref 63, .ref 64, .ref 65, .ref 66, .ref 67, .ref 68, .ref 69, .ref 70, .ref 71, .ref 72, .ref 73, .ref 74, .ref 75, .ref 76, .ref 77, .ref 78, .ref 79, .ref 80, .ref 81, .ref 82, .ref 83, .ref 84, .ref 85, .ref 86, .ref 87, .ref 88, .ref 89, .ref 90, .ref 91, .ref 92, .ref 93, .ref 94, .ref 95, .ref 96, .ref 97, .ref 98, .ref 99, .ref 100, .ref 101, .ref 102, .ref 103, .ref 104, .ref 105, .ref 106, .ref 107, .ref 108, .ref 109, .ref 110, .ref 111, .ref 112, .ref 113, .ref 114, .ref 115, .ref 116, .ref 117, .ref 118, .ref 119, .ref 120, .ref 121, .ref 122, .ref 123, .ref 124, .ref 125, .ref 126, .ref 127, .ref 128, .ref 129, .ref 130, .ref 131, .ref 132, .ref 133, .ref 134, .ref 135, .ref 136, .ref 137, .ref 138, .ref 139, .ref 140, .ref 141, .ref 142, .ref 143, .ref 144, .ref 145, .ref 146, .ref 147, .ref 148, .ref 149, .ref 150, .ref 151, .ref 152, .ref 153, .ref 154, .ref 155, .ref 156, .ref 157, .ref 158, .ref 159, .ref 160, .ref 161, .ref 162, .ref 163, .ref 164, .ref 165, .ref 166, .ref 167, .ref 168, .ref 169, .ref 170, .ref 171, .ref 172, .ref 173, .ref 174, .ref 175, .ref 176, .ref 177, .ref 178, .ref 179, .ref 180, .ref 181, .ref 182, .ref 183, .ref 184, .ref 185, .ref 186, .ref 187, .ref 188, .ref 189, .ref 190, .ref 191, .ref 192, .ref 193, .ref 194, .ref 195, .ref 196, .ref 197, .ref 198, .ref 199, .ref 200, .ref 201, .ref 202, .ref 203, .ref 204, .ref 205, .ref 206, .ref 207, .ref 208, .ref 209, .ref 210, .ref 211, .ref 212, .ref 213, .ref 214, .ref 215, .ref 216, .ref 217, .ref 218, .ref 219, .ref 220, .ref 221, .ref 222, .ref 223, .ref 224, .ref 225, .ref 226, .ref 227, .ref 228, .ref 229, .ref 230, .ref 231, .ref 232, .ref 233, .ref 234, .ref 235, .ref 236, .ref 237, .ref 238, .ref 239, .ref 240, .ref 241, .ref 242, .ref 243, .ref 244, .ref 245, .ref 246, .ref 247, .ref 248, .ref 249, .ref 250, .ref 251, .ref 252, .ref 253, .ref 254, .ref 255, .ref 256, .ref 257, .ref 258, .ref 259], vm := .none },
  { cls := 11, slots := #[.int (-128)], vm := .none },
  { cls := 11, slots := #[.int (-127)], vm := .none },
  { cls := 11, slots := #[.int (-126)], vm := .none },
  { cls := 11, slots := #[.int (-125)], vm := .none },
  { cls := 11, slots := #[.int (-124)], vm := .none },
  { cls := 11, slots := #[.int (-123)], vm := .none },
  { cls := 11, slots := #[.int (-122)], vm := .none },
  { cls := 11, slots := #[.int (-121)], vm := .none },
  { cls := 11, slots := #[.int (-120)], vm := .none },
  { cls := 11, slots := #[.int (-119)], vm := .none },
  { cls := 11, slots := #[.int (-118)], vm := .none },
  { cls := 11, slots := #[.int (-117)], vm := .none },
  { cls := 11, slots := #[.int (-116)], vm := .none },
  { cls := 11, slots := #[.int (-115)], vm := .none },
  { cls := 11, slots := #[.int (-114)], vm := .none },
  { cls := 11, slots := #[.int (-113)], vm := .none },
  { cls := 11, slots := #[.int (-112)], vm := .none },
  { cls := 11, slots := #[.int (-111)], vm := .none },
  { cls := 11, slots := #[.int (-110)], vm := .none },
  { cls := 11, slots := #[.int (-109)], vm := .none },
  { cls := 11, slots := #[.int (-108)], vm := .none },
  { cls := 11, slots := #[.int (-107)], vm := .none },
  { cls := 11, slots := #[.int (-106)], vm := .none },
  { cls := 11, slots := #[.int (-105)], vm := .none },
  { cls := 11, slots := #[.int (-104)], vm := .none },
  { cls := 11, slots := #[.int (-103)], vm := .none },
  { cls := 11, slots := #[.int (-102)], vm := .none },
  { cls := 11, slots := #[.int (-101)], vm := .none },
  { cls := 11, slots := #[.int (-100)], vm := .none },
  { cls := 11, slots := #[.int (-99)], vm := .none },
  { cls := 11, slots := #[.int (-98)], vm := .none },
  { cls := 11, slots := #[.int (-97)], vm := .none },
  { cls := 11, slots := #[.int (-96)], vm := .none },
  { cls := 11, slots := #[.int (-95)], vm := .none },
  { cls := 11, slots := #[.int (-94)], vm := .none },
  { cls := 11, slots := #[.int (-93)], vm := .none },
  { cls := 11, slots := #[.int (-92)], vm := .none },
  { cls := 11, slots := #[.int (-91)], vm := .none },
  { cls := 11, slots := #[.int (-90)], vm := .none },
  { cls := 11, slots := #[.int (-89)], vm := .none },
  { cls := 11, slots := #[.int (-88)], vm := .none },
  { cls := 11, slots := #[.int (-87)], vm := .none },
  { cls := 11, slots := #[.int (-86)], vm := .none },
  { cls := 11, slots := #[.int (-85)], vm := .none },
  { cls := 11, slots := #[.int (-84)], vm := .none },
  { cls := 11, slots := #[.int (-83)], vm := .none },
  { cls := 11, slots := #[.int (-82)], vm := .none },
  { cls := 11, slots := #[.int (-81)], vm := .none },
  { cls := 11, slots := #[.int (-80)], vm := .none },
  { cls := 11, slots := #[.int (-79)], vm := .none },
  { cls := 11, slots := #[.int (-78)], vm := .none },
  { cls := 11, slots := #[.int (-77)], vm := .none },
  { cls := 11, slots := #[.int (-76)], vm := .none },
  { cls := 11, slots := #[.int (-75)], vm := .none },
  { cls := 11, slots := #[.int (-74)], vm := .none },
  { cls := 11, slots := #[.int (-73)], vm := .none },
  { cls := 11, slots := #[.int (-72)], vm := .none },
  { cls := 11, slots := #[.int (-71)], vm := .none },
  { cls := 11, slots := #[.int (-70)], vm := .none },
  { cls := 11, slots := #[.int (-69)], vm := .none },
  { cls := 11, slots := #[.int (-68)], vm := .none },
  { cls := 11, slots := #[.int (-67)], vm := .none },
  { cls := 11, slots := #[.int (-66)], vm := .none },
  { cls := 11, slots := #[.int (-65)], vm := .none },
  { cls := 11, slots := #[.int (-64)], vm := .none },
  { cls := 11, slots := #[.int (-63)], vm := .none },
  { cls := 11, slots := #[.int (-62)], vm := .none },
  { cls := 11, slots := #[.int (-61)], vm := .none },
  { cls := 11, slots := #[.int (-60)], vm := .none },
  { cls := 11, slots := #[.int (-59)], vm := .none },
  { cls := 11, slots := #[.int (-58)], vm := .none },
  { cls := 11, slots := #[.int (-57)], vm := .none },
  { cls := 11, slots := #[.int (-56)], vm := .none },
  { cls := 11, slots := #[.int (-55)], vm := .none },
  { cls := 11, slots := #[.int (-54)], vm := .none },
  { cls := 11, slots := #[.int (-53)], vm := .none },
  { cls := 11, slots := #[.int (-52)], vm := .none },
  { cls := 11, slots := #[.int (-51)], vm := .none },
  { cls := 11, slots := #[.int (-50)], vm := .none },
  { cls := 11, slots := #[.int (-49)], vm := .none },
  { cls := 11, slots := #[.int (-48)], vm := .none },
  { cls := 11, slots := #[.int (-47)], vm := .none },
  { cls := 11, slots := #[.int (-46)], vm := .none },
  { cls := 11, slots := #[.int (-45)], vm := .none },
  { cls := 11, slots := #[.int (-44)], vm := .none },
  { cls := 11, slots := #[.int (-43)], vm := .none },
  { cls := 11, slots := #[.int (-42)], vm := .none },
  { cls := 11, slots := #[.int (-41)], vm := .none },
  { cls := 11, slots := #[.int (-40)], vm := .none },
  { cls := 11, slots := #[.int (-39)], vm := .none },
  { cls := 11, slots := #[.int (-38)], vm := .none },
  { cls := 11, slots := #[.int (-37)], vm := .none },
  { cls := 11, slots := #[.int (-36)], vm := .none },
  { cls := 11, slots := #[.int (-35)], vm := .none },
  { cls := 11, slots := #[.int (-34)], vm := .none },
  { cls := 11, slots := #[.int (-33)], vm := .none },
  { cls := 11, slots := #[.int (-32)], vm := .none },
  { cls := 11, slots := #[.int (-31)], vm := .none },
  { cls := 11, slots := #[.int (-30)], vm := .none },
  { cls := 11, slots := #[.int (-29)], vm := .none },
  { cls := 11, slots := #[.int (-28)], vm := .none },
  { cls := 11, slots := #[.int (-27)], vm := .none },
  { cls := 11, slots := #[.int (-26)], vm := .none },
  { cls := 11, slots := #[.int (-25)], vm := .none },
  { cls := 11, slots := #[.int (-24)], vm := .none },
  { cls := 11, slots := #[.int (-23)], vm := .none },
  { cls := 11, slots := #[.int (-22)], vm := .none },
  { cls := 11, slots := #[.int (-21)], vm := .none },
  { cls := 11, slots := #[.int (-20)], vm := .none },
  { cls := 11, slots := #[.int (-19)], vm := .none },
  { cls := 11, slots := #[.int (-18)], vm := .none },
  { cls := 11, slots := #[.int (-17)], vm := .none },
  { cls := 11, slots := #[.int (-16)], vm := .none },
  { cls := 11, slots := #[.int (-15)], vm := .none },
  { cls := 11, slots := #[.int (-14)], vm := .none },
  { cls := 11, slots := #[.int (-13)], vm := .none },
  { cls := 11, slots := #[.int (-12)], vm := .none },
  { cls := 11, slots := #[.int (-11)], vm := .none },
  { cls := 11, slots := #[.int (-10)], vm := .none },
  { cls := 11, slots := #[.int (-9)], vm := .none },
  { cls := 11, slots := #[.int (-8)], vm := .none },
  { cls := 11, slots := #[.int (-7)], vm := .none },
  { cls := 11, slots := #[.int (-6)], vm := .none },
  { cls := 11, slots := #[.int (-5)], vm := .none },
  { cls := 11, slots := #[.int (-4)], vm := .none },
  { cls := 11, slots := #[.int (-3)], vm := .none },
  { cls := 11, slots := #[.int (-2)], vm := .none },
  { cls := 11, slots := #[.int (-1)], vm := .none },
  { cls := 11, slots := #[.int (0)], vm := .none },
  { cls := 11, slots := #[.int (1)], vm := .none },
  { cls := 11, slots := #[.int (2)], vm := .none },
  { cls := 11, slots := #[.int (3)], vm := .none },
  { cls := 11, slots := #[.int (4)], vm := .none },
  { cls := 11, slots := #[.int (5)], vm := .none },
  { cls := 11, slots := #[.int (6)], vm := .none },
  { cls := 11, slots := #[.int (7)], vm := .none },
  { cls := 11, slots := #[.int (8)], vm := .none },
  { cls := 11, slots := #[.int (9)], vm := .none },
  { cls := 11, slots := #[.int (10)], vm := .none },
  { cls := 11, slots := #[.int (11)], vm := .none },
  { cls := 11, slots := #[.int (12)], vm := .none },
  { cls := 11, slots := #[.int (13)], vm := .none },
  { cls := 11, slots := #[.int (14)], vm := .none },
  { cls := 11, slots := #[.int (15)], vm := .none },
  { cls := 11, slots := #[.int (16)], vm := .none },
  { cls := 11, slots := #[.int (17)], vm := .none },
  { cls := 11, slots := #[.int (18)], vm := .none },
  { cls := 11, slots := #[.int (19)], vm := .none },
  { cls := 11, slots := #[.int (20)], vm := .none },
  { cls := 11, slots := #[.int (21)], vm := .none },
  { cls := 11, slots := #[.int (22)], vm := .none },
  { cls := 11, slots := #[.int (23)], vm := .none },
  { cls := 11, slots := #[.int (24)], vm := .none },
  { cls := 11, slots := #[.int (25)], vm := .none },
  { cls := 11, slots := #[.int (26)], vm := .none },
  { cls := 11, slots := #[.int (27)], vm := .none },
  { cls := 11, slots := #[.int (28)], vm := .none },
  { cls := 11, slots := #[.int (29)], vm := .none },
  { cls := 11, slots := #[.int (30)], vm := .none },
  { cls := 11, slots := #[.int (31)], vm := .none },
  { cls := 11, slots := #[.int (32)], vm := .none },
  { cls := 11, slots := #[.int (33)], vm := .none },
  { cls := 11, slots := #[.int (34)], vm := .none },
  { cls := 11, slots := #[.int (35)], vm := .none },
  { cls := 11, slots := #[.int (36)], vm := .none },
  { cls := 11, slots := #[.int (37)], vm := .none },
  { cls := 11, slots := #[.int (38)], vm := .none },
  { cls := 11, slots := #[.int (39)], vm := .none },
  { cls := 11, slots := #[.int (40)], vm := .none },
  { cls := 11, slots := #[.int (41)], vm := .none },
  { cls := 11, slots := #[.int (42)], vm := .none },
  { cls := 11, slots := #[.int (43)], vm := .none },
  { cls := 11, slots := #[.int (44)], vm := .none },
  { cls := 11, slots := #[.int (45)], vm := .none },
  { cls := 11, slots := #[.int (46)], vm := .none },
  { cls := 11, slots := #[.int (47)], vm := .none },
  { cls := 11, slots := #[.int (48)], vm := .none },
  { cls := 11, slots := #[.int (49)], vm := .none },
  { cls := 11, slots := #[.int (50)], vm := .none },
  { cls := 11, slots := #[.int (51)], vm := .none },
  { cls := 11, slots := #[.int (52)], vm := .none },
  { cls := 11, slots := #[.int (53)], vm := .none },
  { cls := 11, slots := #[.int (54)], vm := .none },
  { cls := 11, slots := #[.int (55)], vm := .none },
  { cls := 11, slots := #[.int (56)], vm := .none },
  { cls := 11, slots := #[.int (57)], vm := .none },
  { cls := 11, slots := #[.int (58)], vm := .none },
  { cls := 11, slots := #[.int (59)], vm := .none },
  { cls := 11, slots := #[.int (60)], vm := .none },
  { cls := 11, slots := #[.int (61)], vm := .none },
  { cls := 11, slots := #[.int (62)], vm := .none },
  { cls := 11, slots := #[.int (63)], vm := .none },
  { cls := 11, slots := #[.int (64)], vm := .none },
  { cls := 11, slots := #[.int (65)], vm := .none },
  { cls := 11, slots := #[.int (66)], vm := .none },
  { cls := 11, slots := #[.int (67)], vm := .none },
  { cls := 11, slots := #[.int (68)], vm := .none },
  { cls := 11, slots := #[.int (69)], vm := .none },
  { cls := 11, slots := #[.int (70)], vm := .none },
  { cls := 11, slots := #[.int (71)], vm := .none },
  { cls := 11, slots := #[.int (72)], vm := .none },
  { cls := 11, slots := #[.int (73)], vm := .none },
  { cls := 11, slots := #[.int (74)], vm := .none },
  { cls := 11, slots := #[.int (75)], vm := .none },
  { cls := 11, slots := #[.int (76)], vm := .none },
  { cls := 11, slots := #[.int (77)], vm := .none },
  { cls := 11, slots := #[.int (78)], vm := .none },
  { cls := 11, slots := #[.int (79)], vm := .none },
  { cls := 11, slots := #[.int (80)], vm := .none },
  { cls := 11, slots := #[.int (81)], vm := .none },
  { cls := 11, slots := #[.int (82)], vm := .none },
  { cls := 11, slots := #[.int (83)], vm := .none },
  { cls := 11, slots := #[.int (84)], vm := .none },
  { cls := 11, slots := #[.int (85)], vm := .none },
  { cls := 11, slots := #[.int (86)], vm := .none },
  { cls := 11, slots := #[.int (87)], vm := .none },
  { cls := 11, slots := #[.int (88)], vm := .none },
  { cls := 11, slots := #[.int (89)], vm := .none },
  { cls := 11, slots := #[.int (90)], vm := .none },
  { cls := 11, slots := #[.int (91)], vm := .none },
  { cls := 11, slots := #[.int (92)], vm := .none },
  { cls := 11, slots := #[.int (93)], vm := .none },
  { cls := 11, slots := #[.int (94)], vm := .none },
  { cls := 11, slots := #[.int (95)], vm := .none },
  { cls := 11, slots := #[.int (96)], vm := .none },
  { cls := 11, slots := #[.int (97)], vm := .none },
  { cls := 11, slots := #[.int (98)], vm := .none },
  { cls := 11, slots := #[.int (99)], vm := .none },
  { cls := 11, slots := #[.int (100)], vm := .none },
  { cls := 11, slots := #[.int (101)], vm := .none },
  { cls := 11, slots := #[.int (102)], vm := .none },
  { cls := 11, slots := #[.int (103)], vm := .none },
  { cls := 11, slots := #[.int (104)], vm := .none },
  { cls := 11, slots := #[.int (105)], vm := .none },
  { cls := 11, slots := #[.int (106)], vm := .none },
  { cls := 11, slots := #[.int (107)], vm := .none },
  { cls := 11, slots := #[.int (108)], vm := .none },
  { cls := 11, slots := #[.int (109)], vm := .none },
  { cls := 11, slots := #[.int (110)], vm := .none },
  { cls := 11, slots := #[.int (111)], vm := .none },
  { cls := 11, slots := #[.int (112)], vm := .none },
  { cls := 11, slots := #[.int (113)], vm := .none },
  { cls := 11, slots := #[.int (114)], vm := .none },
  { cls := 11, slots := #[.int (115)], vm := .none },
  { cls := 11, slots := #[.int (116)], vm := .none },
  { cls := 11, slots := #[.int (117)], vm := .none },
  { cls := 11, slots := #[.int (118)], vm := .none },
  { cls := 11, slots := #[.int (119)], vm := .none },
  { cls := 11, slots := #[.int (120)], vm := .none },
  { cls := 11, slots := #[.int (121)], vm := .none },
  { cls := 11, slots := #[.int (122)], vm := .none },
  { cls := 11, slots := #[.int (123)], vm := .none },
  { cls := 11, slots := #[.int (124)], vm := .none },
  { cls := 11, slots := #[.int (125)], vm := .none },
  { cls := 11, slots := #[.int (126)], vm := .none },
  { cls := 11, slots := #[.int (127)], vm := .none }]
def classes : Array Class := #[k0, k1, k2, k3, k4, k5, k6, k7, k8, k9, k10, k11, k12, k13, k14, k15, k16, k17, k18, k19, k20, k21, k22, k23]
def interned : List (Array UInt16 × Addr) := []
def slotsUsed : Nat := 527
def theMethod : MethodId := ⟨1, 1⟩
def args0 : Array Value := #[.int 5, .int 6, .int 7, .int 8, .int 9]
def aboutOver (below : List Frame) : State where
  vm := { classes := classes, interned := interned.toArray }
  heap := heap
  slotsUsed := slotsUsed
  threads := #[{ frames := .invoking theMethod args0 :: below }]
def below0 : List Frame := [.native { method := ⟨0, 0⟩, args := #[] }]
def about1 : State := aboutOver below0
def p0 : Program := .bare "" "" ""
def e0 : Env := launch0.env 0 0 0
theorem w_frames : about1.frames = Frame.invoking theMethod args0 :: below0 := rfl
set_option maxRecDepth 65536 in
theorem w_args : argsFit about1.vm theMethod args0 = true := by decide +kernel
set_option maxRecDepth 65536 in
theorem w_heap : heapFits about1 = true := by decide +kernel
set_option maxRecDepth 65536 in
theorem w_runnable : about1.curStatus? = some .runnable := by decide +kernel
set_option maxRecDepth 65536 in
theorem w_alone : about1.alone = true := by decide +kernel
set_option maxRecDepth 65536 in
theorem w_named : about1.methodNamed? x = some theMethod := by decide +kernel
set_option maxRecDepth 65536 in
theorem w_hears : about1.hears theMethod below0 = true := by decide +kernel
set_option maxRecDepth 65536 in
theorem w_ripe : about1.ripe theMethod args0 below0 = true := by decide +kernel
theorem w_running : about1.status = .running := rfl
set_option maxRecDepth 65536 in
theorem w_room : about1.hasRoom e0.platform room_1 = true :=
  launch0.hasRoom_least _ room_1 (by decide +kernel) (by decide +kernel) (by decide +kernel) (by decide +kernel) (by decide +kernel) (by decide +kernel)
theorem allAtoms_all (ts : List Jvm.Cond) (a : Array Jvm.Value) (st : Jvm.State) : (allAtoms ts).before a st = ts.all (fun c => c.before a st) := by
  induction ts with
  | nil => rfl
  | cons c t ih =>
    show (Jvm.Cond.and c (allAtoms t)).before a st = _
    rw [Jvm.Cond.before_and, ih, List.all_cons]
def words1 : List Jvm.Cond := Jvm.Cond.code x code maxLocals ret :: tables_1
/-- a 'code' word, met by the world's own term for the bytes: nothing is compared byte by byte -/
theorem code_word {y : MethodName} {bytes : ByteArray} {mx : Nat} {rt : Option FieldType} {a : Array Value} {s : State} {m : MethodId} {meth : Method} {c : Code} (h1 : s.methodNamed? y = some m) (h2 : s.vm.method? m = some meth) (h3 : meth.code = some c) (h4 : c.code = bytes)
    (h5 : (c.maxLocals == mx && c.exceptionTable.isEmpty && decide (c.maxStack ≤ mostOperands) && decide (meth.sig.returnType = rt) && !meth.locks && decide (parseMethodDescriptor y.desc = some meth.sig)) = true) : (Jvm.Cond.code y bytes mx rt).before a s = true := by
  simp only [Bool.and_eq_true, beq_iff_eq, Bool.not_eq_true', decide_eq_true_eq] at h5
  obtain ⟨⟨⟨⟨⟨g1, g2⟩, g3⟩, g4⟩, g5⟩, g6⟩ := h5
  simp [Cond.before, Cond.holds, Cond.value, h1, h2, h3, h4, g1, g2, g3, g4, g5, g6]
def isCode : Jvm.Cond → Bool
  | .code _ _ _ _ => true
  | _ => false
theorem all_split {L : List Jvm.Cond} {P : Jvm.Cond → Bool} (h1 : L.all (fun c => isCode c || P c) = true) (h2 : ∀ c ∈ L.filter isCode, P c = true) : L.all P = true := by
  refine List.all_eq_true.mpr fun c hc => ?_
  have h := List.all_eq_true.mp h1 c hc
  rcases Bool.eq_false_or_eq_true (isCode c) with hi | hi
  · exact h2 c (List.mem_filter.mpr ⟨hc, hi⟩)
  · simpa [hi] using h
set_option maxRecDepth 65536 in
theorem w_c0 : (Jvm.Cond.code x code maxLocals ret).before args0 about1 = true := code_word (m := ⟨1, 1⟩) (meth := k1m1) (c := k1c1) (by decide +kernel) rfl rfl rfl (by decide +kernel)
set_option maxRecDepth 65536 in
theorem w_c1 : (Jvm.Cond.code ({ cls := "java/lang/String", name := "<init>", desc := "([C)V" } : Jvm.MethodName) jdk_42_method_3_code (2 : Nat) (Option.none : Option Jvm.ClassFile.FieldType)).before args0 about1 = true := code_word (m := ⟨8, 1⟩) (meth := k8m1) (c := k8c1) (by decide +kernel) rfl rfl rfl (by decide +kernel)
set_option maxRecDepth 65536 in
theorem w_c2 : (Jvm.Cond.code ({ cls := "java/lang/String", name := "<init>", desc := "([CIILjava/lang/Void;)V" } : Jvm.MethodName) jdk_42_method_149_code (6 : Nat) (Option.none : Option Jvm.ClassFile.FieldType)).before args0 about1 = true := code_word (m := ⟨8, 4⟩) (meth := k8m4) (c := k8c4) (by decide +kernel) rfl rfl rfl (by decide +kernel)
set_option maxRecDepth 65536 in
theorem w_c3 : (Jvm.Cond.code ({ cls := "java/lang/Object", name := "<init>", desc := "()V" } : Jvm.MethodName) object_method_1_code (1 : Nat) (Option.none : Option Jvm.ClassFile.FieldType)).before args0 about1 = true := code_word (m := ⟨0, 0⟩) (meth := k0m0) (c := k0c0) (by decide +kernel) rfl rfl rfl (by decide +kernel)
set_option maxRecDepth 65536 in
theorem w_c4 : (Jvm.Cond.code ({ cls := "java/lang/StringUTF16", name := "compress", desc := "([CII)[B" } : Jvm.MethodName) jdk_52_method_16_code (6 : Nat) (Option.some (Jvm.ClassFile.FieldType.array Jvm.ClassFile.FieldType.byte))).before args0 about1 = true := code_word (m := ⟨9, 2⟩) (meth := k9m2) (c := k9c2) (by decide +kernel) rfl rfl rfl (by decide +kernel)
set_option maxRecDepth 65536 in
theorem w_c5 : (Jvm.Cond.code ({ cls := "java/lang/StringUTF16", name := "compress", desc := "([CI[BII)I" } : Jvm.MethodName) jdk_52_method_21_code (7 : Nat) (Option.some Jvm.ClassFile.FieldType.int)).before args0 about1 = true := code_word (m := ⟨9, 3⟩) (meth := k9m3) (c := k9c3) (by decide +kernel) rfl rfl rfl (by decide +kernel)
set_option maxRecDepth 65536 in
theorem w_c6 : (Jvm.Cond.code ({ cls := "java/lang/StringUTF16", name := "coderFromArrayLen", desc := "([BI)B" } : Jvm.MethodName) jdk_52_method_15_code (2 : Nat) (Option.some Jvm.ClassFile.FieldType.byte)).before args0 about1 = true := code_word (m := ⟨9, 1⟩) (meth := k9m1) (c := k9c1) (by decide +kernel) rfl rfl rfl (by decide +kernel)
set_option maxRecDepth 65536 in
theorem w_c7 : (Jvm.Cond.code ({ cls := "com/example/minho/minho/core/Address", name := "<init>", desc := "(Ljava/lang/String;I)V" } : Jvm.MethodName) prog_4_method_1_code (3 : Nat) (Option.none : Option Jvm.ClassFile.FieldType)).before args0 about1 = true := code_word (m := ⟨2, 0⟩) (meth := k2m0) (c := k2c0) (by decide +kernel) rfl rfl rfl (by decide +kernel)
set_option maxRecDepth 65536 in
theorem w_c8 : (Jvm.Cond.code ({ cls := "java/lang/String", name := "isEmpty", desc := "()Z" } : Jvm.MethodName) jdk_42_method_55_code (1 : Nat) (Option.some Jvm.ClassFile.FieldType.boolean)).before args0 about1 = true := code_word (m := ⟨8, 2⟩) (meth := k8m2) (c := k8c2) (by decide +kernel) rfl rfl rfl (by decide +kernel)
set_option maxRecDepth 65536 in
theorem w_c9 : (Jvm.Cond.code ({ cls := "java/lang/Integer", name := "valueOf", desc := "(I)Ljava/lang/Integer;" } : Jvm.MethodName) jdk_33_method_22_code (1 : Nat) (Option.some (Jvm.ClassFile.FieldType.object "java/lang/Integer"))).before args0 about1 = true := code_word (m := ⟨11, 0⟩) (meth := k11m0) (c := k11c0) (by decide +kernel) rfl rfl rfl (by decide +kernel)
set_option maxRecDepth 65536 in
theorem w_c10 : (Jvm.Cond.code ({ cls := "com/example/minho/minho/core/Address", name := "equals", desc := "(Ljava/lang/Object;)Z" } : Jvm.MethodName) prog_4_method_7_code (3 : Nat) (Option.some Jvm.ClassFile.FieldType.boolean)).before args0 about1 = true := code_word (m := ⟨2, 1⟩) (meth := k2m1) (c := k2c1) (by decide +kernel) rfl rfl rfl (by decide +kernel)
set_option maxRecDepth 65536 in
theorem w_c11 : (Jvm.Cond.code ({ cls := "java/lang/String", name := "equals", desc := "(Ljava/lang/Object;)Z" } : Jvm.MethodName) jdk_42_method_66_code (3 : Nat) (Option.some Jvm.ClassFile.FieldType.boolean)).before args0 about1 = true := code_word (m := ⟨8, 3⟩) (meth := k8m3) (c := k8c3) (by decide +kernel) rfl rfl rfl (by decide +kernel)
set_option maxRecDepth 65536 in
theorem w_c12 : (Jvm.Cond.code ({ cls := "java/lang/StringLatin1", name := "equals", desc := "([B[B)Z" } : Jvm.MethodName) jdk_43_method_13_code (3 : Nat) (Option.some Jvm.ClassFile.FieldType.boolean)).before args0 about1 = true := code_word (m := ⟨13, 1⟩) (meth := k13m1) (c := k13c1) (by decide +kernel) rfl rfl rfl (by decide +kernel)
set_option maxRecDepth 65536 in
theorem w_c13 : (Jvm.Cond.code ({ cls := "java/lang/Integer", name := "<init>", desc := "(I)V" } : Jvm.MethodName) jdk_33_method_23_code (2 : Nat) (Option.none : Option Jvm.ClassFile.FieldType)).before args0 about1 = true := code_word (m := ⟨11, 1⟩) (meth := k11m1) (c := k11c1) (by decide +kernel) rfl rfl rfl (by decide +kernel)
set_option maxRecDepth 65536 in
theorem w_c14 : (Jvm.Cond.code ({ cls := "java/lang/Number", name := "<init>", desc := "()V" } : Jvm.MethodName) jdk_18_method_1_code (1 : Nat) (Option.none : Option Jvm.ClassFile.FieldType)).before args0 about1 = true := code_word (m := ⟨10, 0⟩) (meth := k10m0) (c := k10c0) (by decide +kernel) rfl rfl rfl (by decide +kernel)
def codes1 : List Jvm.Cond := [Jvm.Cond.code x code maxLocals ret, Jvm.Cond.code ({ cls := "java/lang/String", name := "<init>", desc := "([C)V" } : Jvm.MethodName) jdk_42_method_3_code (2 : Nat) (Option.none : Option Jvm.ClassFile.FieldType), Jvm.Cond.code ({ cls := "java/lang/String", name := "<init>", desc := "([CIILjava/lang/Void;)V" } : Jvm.MethodName) jdk_42_method_149_code (6 : Nat) (Option.none : Option Jvm.ClassFile.FieldType), Jvm.Cond.code ({ cls := "java/lang/Object", name := "<init>", desc := "()V" } : Jvm.MethodName) object_method_1_code (1 : Nat) (Option.none : Option Jvm.ClassFile.FieldType), Jvm.Cond.code ({ cls := "java/lang/StringUTF16", name := "compress", desc := "([CII)[B" } : Jvm.MethodName) jdk_52_method_16_code (6 : Nat) (Option.some (Jvm.ClassFile.FieldType.array Jvm.ClassFile.FieldType.byte)), Jvm.Cond.code ({ cls := "java/lang/StringUTF16", name := "compress", desc := "([CI[BII)I" } : Jvm.MethodName) jdk_52_method_21_code (7 : Nat) (Option.some Jvm.ClassFile.FieldType.int), Jvm.Cond.code ({ cls := "java/lang/StringUTF16", name := "coderFromArrayLen", desc := "([BI)B" } : Jvm.MethodName) jdk_52_method_15_code (2 : Nat) (Option.some Jvm.ClassFile.FieldType.byte), Jvm.Cond.code ({ cls := "com/example/minho/minho/core/Address", name := "<init>", desc := "(Ljava/lang/String;I)V" } : Jvm.MethodName) prog_4_method_1_code (3 : Nat) (Option.none : Option Jvm.ClassFile.FieldType), Jvm.Cond.code ({ cls := "java/lang/String", name := "isEmpty", desc := "()Z" } : Jvm.MethodName) jdk_42_method_55_code (1 : Nat) (Option.some Jvm.ClassFile.FieldType.boolean), Jvm.Cond.code ({ cls := "java/lang/Integer", name := "valueOf", desc := "(I)Ljava/lang/Integer;" } : Jvm.MethodName) jdk_33_method_22_code (1 : Nat) (Option.some (Jvm.ClassFile.FieldType.object "java/lang/Integer")), Jvm.Cond.code ({ cls := "com/example/minho/minho/core/Address", name := "equals", desc := "(Ljava/lang/Object;)Z" } : Jvm.MethodName) prog_4_method_7_code (3 : Nat) (Option.some Jvm.ClassFile.FieldType.boolean), Jvm.Cond.code ({ cls := "java/lang/String", name := "equals", desc := "(Ljava/lang/Object;)Z" } : Jvm.MethodName) jdk_42_method_66_code (3 : Nat) (Option.some Jvm.ClassFile.FieldType.boolean), Jvm.Cond.code ({ cls := "java/lang/StringLatin1", name := "equals", desc := "([B[B)Z" } : Jvm.MethodName) jdk_43_method_13_code (3 : Nat) (Option.some Jvm.ClassFile.FieldType.boolean), Jvm.Cond.code ({ cls := "java/lang/Integer", name := "<init>", desc := "(I)V" } : Jvm.MethodName) jdk_33_method_23_code (2 : Nat) (Option.none : Option Jvm.ClassFile.FieldType), Jvm.Cond.code ({ cls := "java/lang/Number", name := "<init>", desc := "()V" } : Jvm.MethodName) jdk_18_method_1_code (1 : Nat) (Option.none : Option Jvm.ClassFile.FieldType)]
set_option maxRecDepth 65536 in
theorem codes_eq : words1.filter isCode = codes1 := rfl
theorem w_codes : ∀ c ∈ words1.filter isCode, c.before args0 about1 = true := by
  rw [codes_eq]
  intro c hc
  simp only [codes1, List.mem_cons, List.not_mem_nil, or_false] at hc
  rcases hc with rfl | rfl | rfl | rfl | rfl | rfl | rfl | rfl | rfl | rfl | rfl | rfl | rfl | rfl | rfl
  · exact w_c0
  · exact w_c1
  · exact w_c2
  · exact w_c3
  · exact w_c4
  · exact w_c5
  · exact w_c6
  · exact w_c7
  · exact w_c8
  · exact w_c9
  · exact w_c10
  · exact w_c11
  · exact w_c12
  · exact w_c13
  · exact w_c14
set_option maxRecDepth 65536 in
theorem w_t1 : (words1.take 24).all (fun c => isCode c || c.before args0 about1) = true := by decide +kernel
set_option maxRecDepth 65536 in
theorem w_t2 : ((words1.drop 24).take 24).all (fun c => isCode c || c.before args0 about1) = true := by decide +kernel
set_option maxRecDepth 65536 in
theorem w_t3 : (((words1.drop 24).drop 24).take 24).all (fun c => isCode c || c.before args0 about1) = true := by decide +kernel
set_option maxRecDepth 65536 in
theorem w_t4 : (((words1.drop 24).drop 24).drop 24).all (fun c => isCode c || c.before args0 about1) = true := by decide +kernel
theorem w_tables : (allAtoms (Jvm.Cond.code x code maxLocals ret :: tables_1)).before args0 about1 = true := by
  rw [allAtoms_all]
  show words1.all (fun c => c.before args0 about1) = true
  refine all_split ?_ w_codes
  rw [← List.take_append_drop 24 words1, List.all_append, w_t1, ← List.take_append_drop 24 (words1.drop 24), List.all_append, w_t2, ← List.take_append_drop 24 ((words1.drop 24).drop 24), List.all_append, w_t3, w_t4]
  rfl
set_option maxRecDepth 65536 in
theorem w_rest : rest_1_c.before args0 about1 = true := by decide +kernel
set_option maxRecDepth 65536 in
theorem w_case : (Jvm.Cond.and given_1 narrow_1).before args0 about1 = true := by decide +kernel
theorem w_applies : (headSpec (Jvm.Cond.code x code maxLocals ret :: tables_1) room_1).applies x e0.platform about1 = true :=
  (Spec.applies_iff w_frames).mpr ⟨w_running, w_runnable, w_alone, w_named, w_hears, w_ripe, w_room, w_tables⟩
theorem atStart : AtStart classFile x code maxLocals ret World_1 tables_1 room_1 Calls_1 rest_1 Pre_1 launch0 p0 e0 about1 theMethod args0 below0 :=
  ⟨lists_1, trivial, launch0.admits_env _ _ _, launch0.least_env, fairChoices_fair.cas, fairChoices_fair.clock, w_frames, w_args, w_heap, w_applies, trivial, w_rest, w_case⟩
end start1
theorem witness_1 : WitnessClaimed_1 := ⟨start1.p0, start1.e0, start1.about1, start1.theMethod, start1.args0, start1.below0, start1.atStart⟩
end Jvm.Pilot.@@N@@
