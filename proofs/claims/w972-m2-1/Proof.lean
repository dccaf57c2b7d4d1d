import JvmDerived
import JvmDerived.Pilot.@@N@@Statement
import JvmDerived.Pilot.@@N@@Code
set_option linter.unusedVariables false
set_option linter.unusedSimpArgs false
namespace Jvm.OwnKit
open Sem ClassFile Op Lib Jvm.Stand Jvm.Free Jvm.LawKit Jvm.RoadKit
section Own
variable {p : Program} {l : Launch} {e : Env} {R : Room} {s s0 : State} {m : MethodId} {args : Array Value} {below : List Frame} {meth : Method} {c : Code} {T : State} {locs : List Loc} {cells slots : Nat} {Z : State} {a0 : Array Value} {h : Heap}
/-- a walk comes to its return; Q says what it leaves; En is the frame's word -/
def Done (En : State → Outcome → State → List Loc → Nat → Nat → Prop) (p : Program) (e : Env) (below : List Frame) (s : State) (R : Room) (Q : Option Value → Heap → Vm → List Loc → Prop) (U : State) : Prop :=
  ∃ s₂ o, Steps p.tables e below U s₂ ∧ s₂.status = .running ∧ Ended s₂ below o ∧ ∃ v L, o = .returned v ∧ Q v s₂.heap s₂.vm L ∧ En s o s₂ L R.cells R.slots
variable {En : State → Outcome → State → List Loc → Nat → Nat → Prop} {Q : Option Value → Heap → Vm → List Loc → Prop} {U U' : State}
theorem Done.step (k : ∀ t, Steps p.tables e below U' t → Steps p.tables e below U t) (h : Done En p e below s R Q U') : Done En p e below s R Q U := by
  obtain ⟨s₂, o, h1, r⟩ := h
  exact ⟨s₂, o, k _ h1, r⟩
theorem Done.go (k : Steps p.tables e below U U') (h : Done En p e below s R Q U') : Done En p e below s R Q U := by
  obtain ⟨s₂, o, h1, r⟩ := h
  exact ⟨s₂, o, k.trans h1, r⟩
/-- the method may be left here -/
def Leaves (En : State → Outcome → State → List Loc → Nat → Nat → Prop) (e : Env) (below : List Frame) (s : State) (m : MethodId) (meth : Method) (T : State) (locs : List Loc) (R : Room) : Prop :=
  ∀ v : Option Value, (meth.sig.returnType = none → v = none) → ∃ fs, (∀ (f : JFrame) (acts : List Action), f.method = m → f.locked = none → f.entered = [] → (doReturn e (T.setTop f) acts v).1 = T.setFrames fs) ∧
    (T.setFrames fs).status = .running ∧ Ended (T.setFrames fs) below (.returned v) ∧ En s (.returned v) (T.setFrames fs) locs R.cells R.slots
theorem leavesF (X : Stand p l e R s m args below meth c T locs cells slots) (hlk : meth.locks = false) (hc : cells ≤ R.cells) (hs : slots ≤ R.slots) : Leaves FrameEnd e below s m meth T locs R := by
  intro v hv
  obtain ⟨fs, hr, hrun, hended, hW, hsame⟩ := X.leave hv hlk
  exact ⟨fs, hr, hrun, hended, ⟨_, rfl⟩, hW, hsame.mono hc hs⟩
theorem leavesW {vm0 : Vm} (X : Stand p l e R (s.setVm vm0) m args below meth c T locs cells slots) {n : Nat} (hS : s.Since vm0 n) (hn : n ≤ T.heap.size) (hlk : meth.locks = false) (hc : cells ≤ R.cells) (hs : slots ≤ R.slots) : Leaves ReturnedEndW e below s m meth T locs R := by
  intro v hv
  obtain ⟨fs, hr, hrun, hended, h1, h2, h3, h4⟩ := X.leaveW hS hn hv hlk
  exact ⟨fs, hr, hrun, hended, h1, h2, h3, h4.mono hc hs⟩
theorem Done.retI (Lv : Leaves En e below s0 m meth T locs R) (X : Stand p l e R s m args below meth c T locs cells slots) (hx : p.tables.exec = Jvm.exec) {pc : Nat} {Ls : Array Slot} {z : Int32} {rest : List Value} (hret : meth.sig.returnType = some .int) (hd : decode c.code pc = .ok (.ireturn, 1))
    (hq : Q (some (.int z)) T.heap T.vm locs) : Done En p e below s0 R Q (T.setTop (mkF m pc Ls (.int z :: rest))) := by
  obtain ⟨fs, hr, hrun, hended, hE⟩ := Lv (some (.int z)) (fun h => by rw [hret] at h; cases h)
  exact ⟨_, _, retOut X hx hret rfl (Or.inl ⟨rfl, Or.inl rfl, z, rfl⟩) hd hr, hrun, hended, _, _, rfl, hq, hE⟩
theorem Done.retJ (Lv : Leaves En e below s0 m meth T locs R) (X : Stand p l e R s m args below meth c T locs cells slots) (hx : p.tables.exec = Jvm.exec) {pc : Nat} {Ls : Array Slot} {z : Int64} {rest : List Value} (hret : meth.sig.returnType = some .long) (hd : decode c.code pc = .ok (.lreturn, 1))
    (hq : Q (some (.long z)) T.heap T.vm locs) : Done En p e below s0 R Q (T.setTop (mkF m pc Ls (.long z :: rest))) := by
  obtain ⟨fs, hr, hrun, hended, hE⟩ := Lv (some (.long z)) (fun h => by rw [hret] at h; cases h)
  exact ⟨_, _, retOut X hx hret rfl (Or.inr (Or.inl ⟨rfl, rfl, z, rfl⟩)) hd hr, hrun, hended, _, _, rfl, hq, hE⟩
theorem Done.retD (Lv : Leaves En e below s0 m meth T locs R) (X : Stand p l e R s m args below meth c T locs cells slots) (hx : p.tables.exec = Jvm.exec) {pc : Nat} {Ls : Array Slot} {z : UInt64} {rest : List Value} (hret : meth.sig.returnType = some .double) (hd : decode c.code pc = .ok (.dreturn, 1))
    (hq : Q (some (.double z)) T.heap T.vm locs) : Done En p e below s0 R Q (T.setTop (mkF m pc Ls (.double z :: rest))) := by
  obtain ⟨fs, hr, hrun, hended, hE⟩ := Lv (some (.double z)) (fun h => by rw [hret] at h; cases h)
  exact ⟨_, _, retOut X hx hret rfl (Or.inr (Or.inr (Or.inl ⟨rfl, rfl, z, rfl⟩))) hd hr, hrun, hended, _, _, rfl, hq, hE⟩
theorem Done.retA (Lv : Leaves En e below s0 m meth T locs R) (X : Stand p l e R s m args below meth c T locs cells slots) (hx : p.tables.exec = Jvm.exec) {pc : Nat} {Ls : Array Slot} {w : Value} {t : FieldType} {rest : List Value} (hret : meth.sig.returnType = some t) (ht : t.isReference = true) (hw : w.isRef = true) (hd : decode c.code pc = .ok (.areturn, 1))
    (hq : Q (some w) T.heap T.vm locs) : Done En p e below s0 R Q (T.setTop (mkF m pc Ls (w :: rest))) := by
  obtain ⟨fs, hr, hrun, hended, hE⟩ := Lv (some w) (fun h => by rw [hret] at h; cases h)
  have hn : narrow t w = w := by rcases ref_cases hw with rfl | ⟨a, rfl⟩ <;> cases t <;> rfl
  exact ⟨_, _, retOut X hx hret hn (Or.inr (Or.inr (Or.inr (Or.inr ⟨rfl, ht, hw⟩)))) hd hr, hrun, hended, _, _, rfl, hq, hE⟩
theorem Done.retN (Lv : Leaves En e below s0 m meth T locs R) (X : Stand p l e R s m args below meth c T locs cells slots) (hx : p.tables.exec = Jvm.exec) {pc : Nat} {Ls : Array Slot} {z : Int32} {t : FieldType} {rest : List Value} (hret : meth.sig.returnType = some t) (ht : t = .boolean ∨ t = .byte ∨ t = .char ∨ t = .short) (hd : decode c.code pc = .ok (.ireturn, 1))
    (hq : Q (some (.int (nar t z))) T.heap T.vm locs) : Done En p e below s0 R Q (T.setTop (mkF m pc Ls (.int z :: rest))) := by
  obtain ⟨fs, hr, hrun, hended, hE⟩ := Lv (some (.int (nar t z))) (fun h => by rw [hret] at h; cases h)
  exact ⟨_, _, Jvm.RoadKit.retN X hx hret ht hd hr, hrun, hended, _, _, rfl, hq, hE⟩
theorem Done.retV (Lv : Leaves En e below s0 m meth T locs R) (X : Stand p l e R s m args below meth c T locs cells slots) (hx : p.tables.exec = Jvm.exec) {pc : Nat} {Ls : Array Slot} (hret : meth.sig.returnType = none) (hd : decode c.code pc = .ok (.return_, 1))
    (hq : Q none T.heap T.vm locs) : Done En p e below s0 R Q (T.setTop (mkF m pc Ls [])) := by
  obtain ⟨fs, hr, hrun, hended, hE⟩ := Lv none (fun _ => rfl)
  exact ⟨_, _, X.returnOut hx hret hd hr, hrun, hended, _, _, rfl, hq, hE⟩
/-- a body's contract: from the arguments as' and the heap h0 it returns, and Q holds; PV is asked of the tables -/
def Ctr (En : State → Outcome → State → List Loc → Nat → Nat → Prop) (l : Launch) (Z : State) (y : MethodName) (code : ByteArray) (ml : Nat) (rt : Option FieldType) (ws : List Jvm.Cond) (rm : Room) (as' : Array Value) (h0 : Heap) (PV : Vm → Prop) (Q : Option Value → Heap → Vm → List Loc → Prop) : Prop :=
  MetFree l y (head1 (Jvm.Cond.code y code ml rt :: ws) rm) (fun a U => a = as' ∧ Z.Warmed39 U.vm ∧ U.heap = h0 ∧ PV U.vm) (fun _ _ _ _ _ => True) (fun _ U o U' => ∃ v L, o = .returned v ∧ Q v U'.heap U'.vm L ∧ En U o U' L rm.cells rm.slots)
abbrev TrueV : Vm → Prop := fun _ => True
theorem Ctr.intro {y : MethodName} {code : ByteArray} {ml : Nat} {rt : Option FieldType} {ws : List Jvm.Cond} {rm : Room} {as' : Array Value} {h0 : Heap} {PV : Vm → Prop} {Ls : Array Slot} (hpl : plainFor y = true) (hf : ∀ m, entryFrame m as' ml = mkF m 0 Ls [])
    (body : ∀ (p : Program) (e : Env) (s : State) (m : MethodId) (below : List Frame) (meth : Method) (c : Code) (T : State), p.tables.exec = Jvm.exec → c.code = code → c.maxLocals = ml → s.vm.findClass y.cls = some m.cls → meth.name = y.name → meth.sig.returnType = rt → meth.locks = false → Z.Warmed39 s.vm → PV s.vm → s.heap = h0 → T.heap = h0 →
      Stand p l e rm s m as' below meth c T [] 0 0 → Done En p e below s rm Q (T.setTop (mkF m 0 Ls []))) : Ctr En l Z y code ml rt ws rm as' h0 PV Q := by
  refine MetFree.of_bodySF hpl hisR ?_
  intro p e s m args below meth c s₁ Bd hml0 hP hK
  obtain ⟨rfl, hZ, hh, hV⟩ := hP
  have X0 : Stand p l e rm s m args below meth c s₁ [] 0 0 := Stand.of_body Bd
  have e0 : s₁.heap = h0 := by rw [← hh, Bd.state]; rfl
  obtain ⟨s₂, o, h1, r⟩ := body p e s m below meth c s₁ Bd.exec Bd.bytes hml0 (findClass_of_methodNamed Bd.named) (name_of_methodNamed Bd.named Bd.method).1 Bd.returns Bd.notSynchronized hZ hV hh e0 X0
  exact ⟨s₂, o, castTop (hf m) h1, r⟩
variable {Qc : Option Value → Heap → Vm → List Loc → Prop}
theorem Ctr.back {y : MethodName} {bytes : ByteArray} {maxL : Nat} {ret : Option FieldType} {rm : Room} {len W : Nat} {as' : Array Value} {PV : Vm → Prop} (hM : Ctr FrameEnd l Z y bytes maxL ret [] rm as' h PV Qc)
    (hZ : Z.Warmed39 s.vm) (hV : ∀ vm', s.WarmedH vm' → PV vm') (wc : (Jvm.Cond.code y bytes maxL ret).before a0 Z = true) (wz : (Jvm.Cond.initialized y.cls).before a0 Z = true) (hf : rm.frames + 1 ≤ R.frames) (hl : W + (maxL + 11) + rm.locals ≤ R.locals) :
    Back l R p e below s args y len W (fun A a => a = as' ∧ A.U.heap = h ∧ A.cells + rm.cells ≤ R.cells ∧ A.slots + rm.slots ≤ R.slots)
      (fun A _ v B => ∃ L, Qc v B.U.heap B.U.vm L ∧ B.locs = A.locs ++ L ∧ B.cells = A.cells + rm.cells ∧ B.slots = A.slots + rm.slots) :=
  Back.of_free (bytes := bytes) (maxL := maxL) (ret := ret) (E := fun _ _ o t L k n => k = rm.cells ∧ n = rm.slots ∧ ∃ v, o = .returned v ∧ Qc v t.heap t.vm L) hM hf hl
    (fun m meth c A a Y hp => have hU : Z.Warmed39 A.U.vm := wtrans hZ Y.warmed
      ⟨by show (Cond.and _ .tt).before a A.U = true; rw [Cond.before_and, mv hU wc]; rfl, mv hU wc, mv hU wz, hp.2.2.1, hp.2.2.2⟩)
    (fun m meth c A a g mk Y hp => ⟨hp.1, wtrans hZ Y.warmed, hp.2.1, hV _ Y.warmed⟩) (fun _ _ _ _ _ _ _ _ _ => trivial)
    (fun _ _ _ _ ⟨v, L, h1, h2, h3⟩ => ⟨L, _, _, h3, rfl, rfl, v, h1, h2⟩)
    (fun m meth c A a g mk v t L k n Y hp _ _ ⟨e1, e2, v', e3, e4⟩ => by cases e3; subst e1 e2; exact ⟨L, e4, rfl, rfl, rfl⟩)
theorem Ctr.backW {y : MethodName} {bytes : ByteArray} {maxL : Nat} {ret : Option FieldType} {rm : Room} {len W : Nat} {as' : Array Value} {PV : Vm → Prop} (hM : Ctr ReturnedEndW l Z y bytes maxL ret [] rm as' h PV Qc)
    (hZ : Z.Warmed39 s.vm) (hV : ∀ vm', s.WarmedH vm' → PV vm') (wc : (Jvm.Cond.code y bytes maxL ret).before a0 Z = true) (wz : (Jvm.Cond.initialized y.cls).before a0 Z = true) (hf : rm.frames + 1 ≤ R.frames) (hl : W + (maxL + 11) + rm.locals ≤ R.locals) :
    BackS l R p e below s args y len W (fun A a => a = as' ∧ A.U.heap = h ∧ A.cells + rm.cells ≤ R.cells ∧ A.slots + rm.slots ≤ R.slots)
      (fun A _ v B => ∃ L, Qc v B.U.heap B.U.vm L ∧ B.locs = A.locs ++ L ∧ B.cells = A.cells + rm.cells ∧ B.slots = A.slots + rm.slots) :=
  BackS.of_freeW (bytes := bytes) (maxL := maxL) (ret := ret) (E := fun _ _ o t L k n => k = rm.cells ∧ n = rm.slots ∧ ∃ v, o = .returned v ∧ Qc v t.heap t.vm L) hM hf hl
    (fun m meth c A a Y hp => have hU : Z.Warmed39 A.U.vm := wtrans hZ Y.warmed
      ⟨by show (Cond.and _ .tt).before a A.U = true; rw [Cond.before_and, mv hU wc]; rfl, mv hU wc, mv hU wz, hp.2.2.1, hp.2.2.2⟩)
    (fun m meth c A a g mk Y hp => ⟨hp.1, wtrans hZ Y.warmed, hp.2.1, hV _ Y.warmed⟩) (fun _ _ _ _ _ _ _ _ _ => trivial)
    (fun _ _ _ _ ⟨v, L, h1, h2, h3⟩ => ⟨L, _, _, h3, rfl, rfl, v, h1, h2⟩)
    (fun m meth c A a g mk v t L k n Y hp _ _ ⟨e1, e2, v', e3, e4⟩ => by cases e3; subst e1 e2; exact ⟨L, e4, rfl, rfl, rfl⟩)
theorem wAt {ws : List Jvm.Cond} (hw : ∀ d ∈ ws, d.before a0 Z = true) (k : Nat) {d : Jvm.Cond} (q : ws[k]? = some d) : d.before a0 Z = true := hw _ (List.mem_of_getElem? q)
theorem int_eq_v {first s : State} {o : Option Outcome} {idx : List Nat} {t : Term} {k : Int32} (q : (Jvm.Cond.eq t (.int k)).value args first o s idx = some true) : t.eval args first o idx s = some (.int k) := by
  cases ht : t.eval args first o idx s with
  | none => simp [Cond.value, ht] at q
  | some x => cases x <;> simp [Cond.value, Term.eval, ht] at q ⊢; exact q
/-- a truth value as the JVM returns it -/
def bP (P : Prop) [Decidable P] : Int32 := if P then 1 else 0
theorem bP_t {P : Prop} [Decidable P] (q : P) : bP P = 1 := if_pos q
theorem bP_f {P : Prop} [Decidable P] (q : ¬ P) : bP P = 0 := if_neg q
/-- what a law leaves: it returns 1, and wrote in new cells alone -/
def LawQ (n0 : Nat) : Option Value → Heap → Vm → List Loc → Prop := fun v _ _ L => v = some (.int 1) ∧ Fr n0 L
/-- what a body leaves that writes and makes nothing -/
def PureQ (r : Option Value) (h0 : Heap) : Option Value → Heap → Vm → List Loc → Prop := fun v h _ L => v = r ∧ h = h0 ∧ L = []
/-- what a constructor leaves of which no more is wanted: it wrote in ws and in new cells alone -/
def QW (n0 : Nat) (h0 : Heap) (ws : List Addr) : Option Value → Heap → Vm → List Loc → Prop := fun v h _ L => v = none ∧ Fr n0 L ∧ Keep h0 h ws
section Calls
variable {own C : String} {index : Nat} {y z : MethodName} {bytes : ByteArray} {maxL : Nat} {ret : Option FieldType} {rm : Room} {as' : Array Value} {PV : Vm → Prop} {g : JFrame} {r : Option Value}
theorem Done.callS (X : Stand p l e R s m args below meth c T locs cells slots) (hx : p.tables.exec = Jvm.exec) (hZ : Z.Warmed39 s.vm) (hown : s.vm.findClass own = some m.cls)
    (w1 : (Jvm.Cond.methodLink own index y).before a0 Z = true) (w2 : (Jvm.Cond.static y).before a0 Z = true) (w3 : (Jvm.Cond.initialized y.cls).before a0 Z = true) (w4 : (Jvm.Cond.code y bytes maxL ret).before a0 Z = true)
    (hy : y.cls ≠ "java/lang/invoke/MethodHandle" ∧ y.cls ≠ "java/lang/invoke/VarHandle") (hM : Ctr FrameEnd l Z y bytes maxL ret [] rm as' h PV Qc) (hV : ∀ vm', s.WarmedH vm' → PV vm') (eT : T.heap = h)
    (hg : g.method = m) (hsize : g.locals.size = c.maxLocals) (argsL rest : List Value) (W : Nat) (hlen : ∀ sig, parseMethodDescriptor y.desc = some sig → argsL.length = sig.parameters.length)
    (hstack : g.stack = argsL.reverse ++ rest) (has : argsL.toArray = as') (hW : 2 * g.monitorRoom + (rest.map fun v => v.category).sum ≤ W) (hdg : decode c.code g.pc = .ok (.invokestatic index, 3))
    (hf : rm.frames + 1 ≤ R.frames) (hl : W + (maxL + 11) + rm.locals ≤ R.locals) (hc : cells + rm.cells ≤ R.cells) (hs : slots + rm.slots ≤ R.slots)
    (k : ∀ (T' : State) (v : Option Value) (L : List Loc), Stand p l e R s m args below meth c T' (locs ++ L) (cells + rm.cells) (slots + rm.slots) → Qc v T'.heap T'.vm L → Done En p e below s0 R Q (T'.setTop { g with pc := g.pc + 3, stack := v.toList ++ rest })) :
    Done En p e below s0 R Q (T.setTop g) := by
  subst has
  obtain ⟨v, vm₁, ⟨T', L', k', n'⟩, -, X', ⟨L, hq, e1, e2, e3⟩, st⟩ := Jvm.LawKit.callS X hx (y := y) hown (mvT hZ w1) (mvT hZ w2) (mvT hZ w3) (mvT hZ w4) hy (hM.back (W := W) hZ hV w4 w3 hf hl) hg hsize (argsL := argsL) (rest := rest) hlen hstack hW hdg (fun _ _ => ⟨rfl, eT, hc, hs⟩)
  dsimp only [Pt.U, Pt.locs, Pt.cells, Pt.slots] at X' e1 e2 e3 st hq
  subst e1 e2 e3
  exact Done.step st (k _ _ _ X' hq)
theorem Done.callSP (X : Stand p l e R s m args below meth c T locs cells slots) (hx : p.tables.exec = Jvm.exec) (hZ : Z.Warmed39 s.vm) (hown : s.vm.findClass own = some m.cls)
    (w1 : (Jvm.Cond.methodLink own index y).before a0 Z = true) (w2 : (Jvm.Cond.static y).before a0 Z = true) (w3 : (Jvm.Cond.initialized y.cls).before a0 Z = true) (w4 : (Jvm.Cond.code y bytes maxL ret).before a0 Z = true)
    (hy : y.cls ≠ "java/lang/invoke/MethodHandle" ∧ y.cls ≠ "java/lang/invoke/VarHandle") (hM : Ctr FrameEnd l Z y bytes maxL ret [] rm as' h TrueV (PureQ r h)) (eT : T.heap = h)
    (hg : g.method = m) (hsize : g.locals.size = c.maxLocals) (argsL rest : List Value) (W : Nat) (hlen : ∀ sig, parseMethodDescriptor y.desc = some sig → argsL.length = sig.parameters.length)
    (hstack : g.stack = argsL.reverse ++ rest) (has : argsL.toArray = as') (hW : 2 * g.monitorRoom + (rest.map fun v => v.category).sum ≤ W) (hdg : decode c.code g.pc = .ok (.invokestatic index, 3))
    (hf : rm.frames + 1 ≤ R.frames) (hl : W + (maxL + 11) + rm.locals ≤ R.locals) (hc : cells ≤ R.cells) (hs : slots ≤ R.slots) (rc : rm.cells = 0) (rs : rm.slots = 0)
    (k : ∀ (T' : State), Stand p l e R s m args below meth c T' locs cells slots → T'.heap = h → Done En p e below s0 R Q (T'.setTop { g with pc := g.pc + 3, stack := r.toList ++ rest })) :
    Done En p e below s0 R Q (T.setTop g) := by
  refine Done.callS X hx hZ hown w1 w2 w3 w4 hy hM (fun _ _ => trivial) eT hg hsize argsL rest W hlen hstack has hW hdg hf hl (by rw [rc]; exact hc) (by rw [rs]; exact hs) ?_
  intro T' v L X' q
  obtain ⟨rfl, e1, rfl⟩ := q
  rw [List.append_nil, rc, rs] at X'
  exact k T' X' e1
theorem Done.callI (X : Stand p l e R s m args below meth c T locs cells slots) (hx : p.tables.exec = Jvm.exec) (hZ : Z.Warmed39 s.vm) (hy1 : y.name = "<init>") (hown : s.vm.findClass own = some m.cls)
    (w1 : (Jvm.Cond.methodLink own index y).before a0 Z = true) (w2 : (Jvm.Cond.instanceMethod y).before a0 Z = true) (w3 : (Jvm.Cond.initialized y.cls).before a0 Z = true) (w4 : (Jvm.Cond.code y bytes maxL none).before a0 Z = true)
    (hy : y.cls ≠ "java/lang/invoke/MethodHandle" ∧ y.cls ≠ "java/lang/invoke/VarHandle") (hM : Ctr FrameEnd l Z y bytes maxL none [] rm as' h PV Qc) (hV : ∀ vm', s.WarmedH vm' → PV vm') (eT : T.heap = h)
    (hg : g.method = m) (hsize : g.locals.size = c.maxLocals) (a : Addr) (argsL rest : List Value) (W : Nat) (hlen : ∀ sig, parseMethodDescriptor y.desc = some sig → argsL.length = sig.parameters.length)
    (hstack : g.stack = argsL.reverse ++ .ref a :: rest) (has : (Value.ref a :: argsL).toArray = as') (hW : 2 * g.monitorRoom + (rest.map fun v => v.category).sum ≤ W) (hdg : decode c.code g.pc = .ok (.invokespecial index, 3))
    (hf : rm.frames + 1 ≤ R.frames) (hl : W + (maxL + 11) + rm.locals ≤ R.locals) (hc : cells + rm.cells ≤ R.cells) (hs : slots + rm.slots ≤ R.slots)
    (k : ∀ (T' : State) (v : Option Value) (L : List Loc), Stand p l e R s m args below meth c T' (locs ++ L) (cells + rm.cells) (slots + rm.slots) → Qc v T'.heap T'.vm L → Done En p e below s0 R Q (T'.setTop { g with pc := g.pc + 3, stack := v.toList ++ rest })) :
    Done En p e below s0 R Q (T.setTop g) := by
  subst has
  obtain ⟨v, vm₁, ⟨T', L', k', n'⟩, -, X', ⟨L, hq, e1, e2, e3⟩, st⟩ := X.specialBack hx (y := y) hy1 hown (mvT hZ w1) (mvT hZ w2) (mvT hZ w4) hy (hM.back (W := W) hZ hV w4 w3 hf hl) hg hsize (Steps.refl _) (a := a) (argsL := argsL) (rest := rest) hlen hstack hW hdg (fun _ _ => ⟨rfl, eT, hc, hs⟩)
  dsimp only [Pt.U, Pt.locs, Pt.cells, Pt.slots] at X' e1 e2 e3 st hq
  subst e1 e2 e3
  exact Done.go st (k _ _ _ X' hq)
theorem Done.callV (X : Stand p l e R s m args below meth c T locs cells slots) (hx : p.tables.exec = Jvm.exec) (hZ : Z.Warmed39 s.vm) (hown : s.vm.findClass own = some m.cls)
    (w1 : (Jvm.Cond.methodLink own index y).before a0 Z = true) (w2 : (Jvm.Cond.declares y).before a0 Z = true) (hnf : NotFace s y) (w5 : (Jvm.Cond.selects C y z).before a0 Z = true) (w6 : (Jvm.Cond.instanceMethod z).before a0 Z = true)
    (w3 : (Jvm.Cond.initialized z.cls).before a0 Z = true) (w4 : (Jvm.Cond.code z bytes maxL ret).before a0 Z = true)
    (hy : y.cls ≠ "java/lang/invoke/MethodHandle" ∧ y.cls ≠ "java/lang/invoke/VarHandle") (hM : Ctr FrameEnd l Z z bytes maxL ret [] rm as' h PV Qc) (hV : ∀ vm', s.WarmedH vm' → PV vm') (eT : T.heap = h) {b : Addr} (E : Exa Z h b C)
    (hg : g.method = m) (hsize : g.locals.size = c.maxLocals) (argsL rest : List Value) (W : Nat) (hlen : ∀ sig, parseMethodDescriptor y.desc = some sig → argsL.length = sig.parameters.length)
    (hstack : g.stack = argsL.reverse ++ .ref b :: rest) (has : (Value.ref b :: argsL).toArray = as') (hW : 2 * g.monitorRoom + (rest.map fun v => v.category).sum ≤ W) (hdg : decode c.code g.pc = .ok (.invokevirtual index, 3))
    (hf : rm.frames + 1 ≤ R.frames) (hl : W + (maxL + 11) + rm.locals ≤ R.locals) (hc : cells + rm.cells ≤ R.cells) (hs : slots + rm.slots ≤ R.slots)
    (k : ∀ (T' : State) (v : Option Value) (L : List Loc), Stand p l e R s m args below meth c T' (locs ++ L) (cells + rm.cells) (slots + rm.slots) → Qc v T'.heap T'.vm L → Done En p e below s0 R Q (T'.setTop { g with pc := g.pc + 3, stack := v.toList ++ rest })) :
    Done En p e below s0 R Q (T.setTop g) := by
  subst has
  obtain ⟨cq, kq, qa, qb, qc⟩ := isOf (T := T) hZ eT E
  obtain ⟨v, vm₁, ⟨T', L', k', n'⟩, -, X', ⟨L, hq, e1, e2, e3⟩, st⟩ := X.virtualBack hx (y := y) (z := z) hown (mvT hZ w1) (mvT hZ w2) hnf (mvT hZ w5) (mvT hZ w6) hy (hM.back (W := W) hZ hV w4 w3 hf hl) qa qc hg hsize (Steps.refl _) (argsL := argsL) (rest := rest) hlen hstack hW hdg (fun _ _ => ⟨rfl, eT, hc, hs⟩)
  dsimp only [Pt.U, Pt.locs, Pt.cells, Pt.slots] at X' e1 e2 e3 st hq
  subst e1 e2 e3
  exact Done.go st (k _ _ _ X' hq)
theorem Done.callVP (X : Stand p l e R s m args below meth c T locs cells slots) (hx : p.tables.exec = Jvm.exec) (hZ : Z.Warmed39 s.vm) (hown : s.vm.findClass own = some m.cls)
    (w1 : (Jvm.Cond.methodLink own index y).before a0 Z = true) (w2 : (Jvm.Cond.declares y).before a0 Z = true) (hnf : NotFace s y) (w5 : (Jvm.Cond.selects C y z).before a0 Z = true) (w6 : (Jvm.Cond.instanceMethod z).before a0 Z = true)
    (w3 : (Jvm.Cond.initialized z.cls).before a0 Z = true) (w4 : (Jvm.Cond.code z bytes maxL ret).before a0 Z = true)
    (hy : y.cls ≠ "java/lang/invoke/MethodHandle" ∧ y.cls ≠ "java/lang/invoke/VarHandle") (hM : Ctr FrameEnd l Z z bytes maxL ret [] rm as' h TrueV (PureQ r h)) (eT : T.heap = h) {b : Addr} (E : Exa Z h b C)
    (hg : g.method = m) (hsize : g.locals.size = c.maxLocals) (argsL rest : List Value) (W : Nat) (hlen : ∀ sig, parseMethodDescriptor y.desc = some sig → argsL.length = sig.parameters.length)
    (hstack : g.stack = argsL.reverse ++ .ref b :: rest) (has : (Value.ref b :: argsL).toArray = as') (hW : 2 * g.monitorRoom + (rest.map fun v => v.category).sum ≤ W) (hdg : decode c.code g.pc = .ok (.invokevirtual index, 3))
    (hf : rm.frames + 1 ≤ R.frames) (hl : W + (maxL + 11) + rm.locals ≤ R.locals) (hc : cells ≤ R.cells) (hs : slots ≤ R.slots) (rc : rm.cells = 0) (rs : rm.slots = 0)
    (k : ∀ (T' : State), Stand p l e R s m args below meth c T' locs cells slots → T'.heap = h → Done En p e below s0 R Q (T'.setTop { g with pc := g.pc + 3, stack := r.toList ++ rest })) :
    Done En p e below s0 R Q (T.setTop g) := by
  refine Done.callV X hx hZ hown w1 w2 hnf w5 w6 w3 w4 hy hM (fun _ _ => trivial) eT E hg hsize argsL rest W hlen hstack has hW hdg hf hl (by rw [rc]; exact hc) (by rw [rs]; exact hs) ?_
  intro T' v L X' q
  obtain ⟨rfl, e1, rfl⟩ := q
  rw [List.append_nil, rc, rs] at X'
  exact k T' X' e1
/-- calls that a law of the library or of a paste pays -/
theorem Done.callIB {nc ns W : Nat} {Qh : Option Value → Heap → List Loc → Prop} (X : Stand p l e R s m args below meth c T locs cells slots) (hx : p.tables.exec = Jvm.exec) (hZ : Z.Warmed39 s.vm) (hy1 : y.name = "<init>") (hown : s.vm.findClass own = some m.cls)
    (w1 : (Jvm.Cond.methodLink own index y).before a0 Z = true) (w2 : (Jvm.Cond.instanceMethod y).before a0 Z = true) (w4 : (Jvm.Cond.code y bytes maxL none).before a0 Z = true)
    (hy : y.cls ≠ "java/lang/invoke/MethodHandle" ∧ y.cls ≠ "java/lang/invoke/VarHandle")
    (hK : Back l R p e below s args y 3 W (fun A a => a = as' ∧ A.U.heap = h ∧ A.cells + nc ≤ R.cells ∧ A.slots + ns ≤ R.slots) (fun A _ v B => ∃ L, Qh v B.U.heap L ∧ B.locs = A.locs ++ L ∧ B.cells = A.cells + nc ∧ B.slots = A.slots + ns)) (eT : T.heap = h)
    (hg : g.method = m) (hsize : g.locals.size = c.maxLocals) (a : Addr) (argsL rest : List Value) (hlen : ∀ sig, parseMethodDescriptor y.desc = some sig → argsL.length = sig.parameters.length)
    (hstack : g.stack = argsL.reverse ++ .ref a :: rest) (has : (Value.ref a :: argsL).toArray = as') (hW : 2 * g.monitorRoom + (rest.map fun v => v.category).sum ≤ W) (hdg : decode c.code g.pc = .ok (.invokespecial index, 3))
    (hc : cells + nc ≤ R.cells) (hs : slots + ns ≤ R.slots)
    (k : ∀ (T' : State) (v : Option Value) (L : List Loc), Stand p l e R s m args below meth c T' (locs ++ L) (cells + nc) (slots + ns) → Qh v T'.heap L → Done En p e below s0 R Q (T'.setTop { g with pc := g.pc + 3, stack := v.toList ++ rest })) :
    Done En p e below s0 R Q (T.setTop g) := by
  subst has
  obtain ⟨v, vm₁, ⟨T', L', k', n'⟩, -, X', ⟨L, hq, e1, e2, e3⟩, st⟩ := X.specialBack hx (y := y) hy1 hown (mvT hZ w1) (mvT hZ w2) (mvT hZ w4) hy hK hg hsize (Steps.refl _) (a := a) (argsL := argsL) (rest := rest) hlen hstack hW hdg (fun _ _ => ⟨rfl, eT, hc, hs⟩)
  dsimp only [Pt.U, Pt.locs, Pt.cells, Pt.slots] at X' e1 e2 e3 st hq
  subst e1 e2 e3
  exact Done.go st (k _ _ _ X' hq)
theorem Done.callVB {nc ns W : Nat} {Qh : Option Value → Heap → List Loc → Prop} (X : Stand p l e R s m args below meth c T locs cells slots) (hx : p.tables.exec = Jvm.exec) (hZ : Z.Warmed39 s.vm) (hown : s.vm.findClass own = some m.cls)
    (w1 : (Jvm.Cond.methodLink own index y).before a0 Z = true) (w2 : (Jvm.Cond.declares y).before a0 Z = true) (hnf : NotFace s y) (w5 : (Jvm.Cond.selects C y z).before a0 Z = true) (w6 : (Jvm.Cond.instanceMethod z).before a0 Z = true)
    (hy : y.cls ≠ "java/lang/invoke/MethodHandle" ∧ y.cls ≠ "java/lang/invoke/VarHandle")
    (hK : Back l R p e below s args z 3 W (fun A a => a = as' ∧ A.U.heap = h ∧ A.cells + nc ≤ R.cells ∧ A.slots + ns ≤ R.slots) (fun A _ v B => ∃ L, Qh v B.U.heap L ∧ B.locs = A.locs ++ L ∧ B.cells = A.cells + nc ∧ B.slots = A.slots + ns)) (eT : T.heap = h) {b : Addr} (E : Exa Z h b C)
    (hg : g.method = m) (hsize : g.locals.size = c.maxLocals) (argsL rest : List Value) (hlen : ∀ sig, parseMethodDescriptor y.desc = some sig → argsL.length = sig.parameters.length)
    (hstack : g.stack = argsL.reverse ++ .ref b :: rest) (has : (Value.ref b :: argsL).toArray = as') (hW : 2 * g.monitorRoom + (rest.map fun v => v.category).sum ≤ W) (hdg : decode c.code g.pc = .ok (.invokevirtual index, 3))
    (hc : cells + nc ≤ R.cells) (hs : slots + ns ≤ R.slots)
    (k : ∀ (T' : State) (v : Option Value) (L : List Loc), Stand p l e R s m args below meth c T' (locs ++ L) (cells + nc) (slots + ns) → Qh v T'.heap L → Done En p e below s0 R Q (T'.setTop { g with pc := g.pc + 3, stack := v.toList ++ rest })) :
    Done En p e below s0 R Q (T.setTop g) := by
  subst has
  obtain ⟨cq, kq, qa, qb, qc⟩ := isOf (T := T) hZ eT E
  obtain ⟨v, vm₁, ⟨T', L', k', n'⟩, -, X', ⟨L, hq, e1, e2, e3⟩, st⟩ := X.virtualBack hx (y := y) (z := z) hown (mvT hZ w1) (mvT hZ w2) hnf (mvT hZ w5) (mvT hZ w6) hy hK qa qc hg hsize (Steps.refl _) (argsL := argsL) (rest := rest) hlen hstack hW hdg (fun _ _ => ⟨rfl, eT, hc, hs⟩)
  dsimp only [Pt.U, Pt.locs, Pt.cells, Pt.slots] at X' e1 e2 e3 st hq
  subst e1 e2 e3
  exact Done.go st (k _ _ _ X' hq)
/-- the three calls of a callee that may load literals -/
theorem Done.callSW {vm0 : Vm} {k0 : Nat} (X : Stand p l e R (s.setVm vm0) m args below meth c T locs cells slots) (hx : p.tables.exec = Jvm.exec) (hZ : Z.Warmed39 vm0) (hown : vm0.findClass own = some m.cls) (hS : s.Since vm0 k0) (hk : k0 ≤ h.size)
    (w1 : (Jvm.Cond.methodLink own index y).before a0 Z = true) (w2 : (Jvm.Cond.static y).before a0 Z = true) (w3 : (Jvm.Cond.initialized y.cls).before a0 Z = true) (w4 : (Jvm.Cond.code y bytes maxL ret).before a0 Z = true)
    (hy : y.cls ≠ "java/lang/invoke/MethodHandle" ∧ y.cls ≠ "java/lang/invoke/VarHandle") (hM : Ctr ReturnedEndW l Z y bytes maxL ret [] rm as' h PV Qc) (hV : ∀ vm', (s.setVm vm0).WarmedH vm' → PV vm') (eT : T.heap = h)
    (hg : g.method = m) (hsize : g.locals.size = c.maxLocals) (argsL rest : List Value) (W : Nat) (hlen : ∀ sig, parseMethodDescriptor y.desc = some sig → argsL.length = sig.parameters.length)
    (hstack : g.stack = argsL.reverse ++ rest) (has : argsL.toArray = as') (hW : 2 * g.monitorRoom + (rest.map fun v => v.category).sum ≤ W) (hdg : decode c.code g.pc = .ok (.invokestatic index, 3))
    (hf : rm.frames + 1 ≤ R.frames) (hl : W + (maxL + 11) + rm.locals ≤ R.locals) (hc : cells + rm.cells ≤ R.cells) (hs : slots + rm.slots ≤ R.slots)
    (k : ∀ (T' : State) (v : Option Value) (L : List Loc), Stand p l e R (s.setVm T'.vm) m args below meth c T' (locs ++ L) (cells + rm.cells) (slots + rm.slots) → s.Since T'.vm T'.heap.size → Z.Warmed39 T'.vm → T'.vm.findClass own = some m.cls → (s.setVm vm0).Warmed39 T'.vm → Qc v T'.heap T'.vm L →
      Done En p e below s0 R Q (T'.setTop { g with pc := g.pc + 3, stack := v.toList ++ rest })) :
    Done En p e below s0 R Q (T.setTop g) := by
  subst has eT
  obtain ⟨v, vm₁, ⟨T', L', k', n'⟩, hW1, X', hS', hgr, ⟨L, hq, e1, e2, e3⟩, st⟩ := callSS (s := s.setVm vm0) X hx (y := y) hown (mvT (s := s.setVm vm0) hZ w1) (mvT (s := s.setVm vm0) hZ w2) (mvT (s := s.setVm vm0) hZ w3) (mvT (s := s.setVm vm0) hZ w4) hy (hM.backW (s := s.setVm vm0) (W := W) hZ hV w4 w3 hf hl) hg hsize (argsL := argsL) (rest := rest) hlen hstack hW hdg (fun _ _ => ⟨rfl, rfl, hc, hs⟩)
  dsimp only [Pt.U, Pt.locs, Pt.cells, Pt.slots] at X' e1 e2 e3 st hq hS' hgr
  subst e1 e2 e3
  exact Done.go st (k T' v L X' (hS.trans hS' (Nat.le_trans hk hgr)) (State.Warmed39.trans (t := s.setVm vm0) hZ hS'.1) (by rw [hS'.1.alike.findClass]; exact hown) hS'.1 hq)
theorem Done.callIW {vm0 : Vm} {k0 : Nat} (X : Stand p l e R (s.setVm vm0) m args below meth c T locs cells slots) (hx : p.tables.exec = Jvm.exec) (hZ : Z.Warmed39 vm0) (hy1 : y.name = "<init>") (hown : vm0.findClass own = some m.cls) (hS : s.Since vm0 k0) (hk : k0 ≤ h.size)
    (w1 : (Jvm.Cond.methodLink own index y).before a0 Z = true) (w2 : (Jvm.Cond.instanceMethod y).before a0 Z = true) (w3 : (Jvm.Cond.initialized y.cls).before a0 Z = true) (w4 : (Jvm.Cond.code y bytes maxL none).before a0 Z = true)
    (hy : y.cls ≠ "java/lang/invoke/MethodHandle" ∧ y.cls ≠ "java/lang/invoke/VarHandle") (hM : Ctr ReturnedEndW l Z y bytes maxL none [] rm as' h PV Qc) (hV : ∀ vm', (s.setVm vm0).WarmedH vm' → PV vm') (eT : T.heap = h)
    (hg : g.method = m) (hsize : g.locals.size = c.maxLocals) (a : Addr) (argsL rest : List Value) (W : Nat) (hlen : ∀ sig, parseMethodDescriptor y.desc = some sig → argsL.length = sig.parameters.length)
    (hstack : g.stack = argsL.reverse ++ .ref a :: rest) (has : (Value.ref a :: argsL).toArray = as') (hW : 2 * g.monitorRoom + (rest.map fun v => v.category).sum ≤ W) (hdg : decode c.code g.pc = .ok (.invokespecial index, 3))
    (hf : rm.frames + 1 ≤ R.frames) (hl : W + (maxL + 11) + rm.locals ≤ R.locals) (hc : cells + rm.cells ≤ R.cells) (hs : slots + rm.slots ≤ R.slots)
    (k : ∀ (T' : State) (v : Option Value) (L : List Loc), Stand p l e R (s.setVm T'.vm) m args below meth c T' (locs ++ L) (cells + rm.cells) (slots + rm.slots) → s.Since T'.vm T'.heap.size → Z.Warmed39 T'.vm → T'.vm.findClass own = some m.cls → (s.setVm vm0).Warmed39 T'.vm → Qc v T'.heap T'.vm L →
      Done En p e below s0 R Q (T'.setTop { g with pc := g.pc + 3, stack := v.toList ++ rest })) :
    Done En p e below s0 R Q (T.setTop g) := by
  subst has eT
  obtain ⟨v, vm₁, ⟨T', L', k', n'⟩, hW1, X', hS', hgr, ⟨L, hq, e1, e2, e3⟩, st⟩ := specialBackS (s := s.setVm vm0) X hx (y := y) hy1 hown (mvT (s := s.setVm vm0) hZ w1) (mvT (s := s.setVm vm0) hZ w2) (mvT (s := s.setVm vm0) hZ w4) hy (hM.backW (s := s.setVm vm0) (W := W) hZ hV w4 w3 hf hl) hg hsize (Steps.refl _) (a := a) (argsL := argsL) (rest := rest) hlen hstack hW hdg (fun _ _ => ⟨rfl, rfl, hc, hs⟩)
  dsimp only [Pt.U, Pt.locs, Pt.cells, Pt.slots] at X' e1 e2 e3 st hq hS' hgr
  subst e1 e2 e3
  exact Done.go st (k T' v L X' (hS.trans hS' (Nat.le_trans hk hgr)) (State.Warmed39.trans (t := s.setVm vm0) hZ hS'.1) (by rw [hS'.1.alike.findClass]; exact hown) hS'.1 hq)
end Calls
end Own
end Jvm.OwnKit
namespace Jvm.OwnFP
open Jvm.FP.Core
theorem big_round (s : Bool) {A : Nat} {e : Int} (hA : 2 ^ 104 ≤ A) (he : -900 ≤ e) : ∃ c q, 2 ^ 52 ≤ c ∧ c < 2 ^ 53 ∧ e + 52 ≤ q ∧ roundRatio b64 s A 1 e = bound b64 s c q := by
  have hA0 : 0 < A := Nat.lt_of_lt_of_le (Nat.two_pow_pos _) hA
  have hlead : 104 ≤ leading A 1 := by
    refine Int.not_lt.mp fun hl => ?_
    have hb := below_mono (b := 104) (by omega) (leading_spec hA0 (B := 1) (by decide)).2
    unfold Below at hb
    rw [show (-(104 : Int)).toNat = 0 from rfl, show (104 : Int).toNat = 104 from rfl, Nat.pow_zero, Nat.mul_one, Nat.one_mul] at hb
    exact absurd hb (Nat.not_lt.mpr hA)
  have hp : (b64.p : Int) = 53 := rfl
  have hqm : b64.qmin = -1074 := by decide
  have hq : e + 52 ≤ quantum b64 A 1 e := by unfold quantum; omega
  have hn : b64.tails ≤ nearest (unitsNum A e (quantum b64 A 1 e)) (unitsDen 1 e (quantum b64 A 1 e)) := by
    rcases quantum_not_below (f := b64) hA0 (B := 1) (by decide) e with h2 | h2
    · omega
    · refine nearest_ge (unitsDen_pos (by decide) ..) ?_
      rw [show (b64.p : Int) - 1 = ((52 : Nat) : Int) by decide, ← units_below] at h2
      exact Nat.le_of_not_lt h2
  unfold roundRatio
  rw [if_neg (by omega)]
  unfold roundAt settle
  split
  · rename_i h; exact ⟨_, _, hn, h, hq, rfl⟩
  · exact ⟨b64.tails, _, Nat.le_refl _, by decide, by omega, rfl⟩
theorem val_big {a : UInt64} (h1 : 1023 * 2 ^ 52 ≤ a.toNat % 2 ^ 63) (h2 : a.toNat % 2 ^ 63 < 2047 * 2 ^ 52) : ∃ s c q, val64 a = .fin s c q ∧ 2 ^ 52 ≤ c ∧ -52 ≤ q := by
  have hE : fieldE b64 a.toNat = a.toNat % 2 ^ 63 / 2 ^ 52 := by rw [fieldE_mag, mag_toNat64, tails_b64]
  have hx : b64.exps = 2048 := by decide
  have hqm : b64.qmin = -1074 := by decide
  have ht : b64.tails = 2 ^ 52 := by decide
  unfold val64 decode
  rw [if_neg (by rw [hE, hx]; omega), if_neg (by rw [hE]; omega)]
  refine ⟨_, _, _, rfl, by rw [ht]; omega, ?_⟩
  rw [hE, hqm]; omega
theorem cmp_zero {d : UInt64} {s : Bool} {c : Nat} {q : Int} (h : val64 d = .fin s c q) : ∃ k : Nat, 0 < k ∧ dcmp d 0 = some (compare (signed s (c * k)) 0) := by
  refine ⟨2 ^ (q - min q b64.qmin).toNat, Nat.two_pow_pos _, ?_⟩
  have hz : val64 0 = .fin false 0 b64.qmin := val64_dconst0
  show order (val64 d) (val64 0) = _
  rw [h, hz]
  show some (compare (signed s (inUnits c q (min q b64.qmin))) (signed false (inUnits 0 b64.qmin (min q b64.qmin)))) = _
  unfold inUnits
  rw [Nat.zero_mul]; rfl
theorem ge0 {d : UInt64} {c : Nat} {q : Int} (h : val64 d = .fin false c q) : ¬ Jvm.Op.cmpValue (dcmp d 0) .l < 0 := by
  obtain ⟨k, hk, e⟩ := cmp_zero h
  have h0 : ¬ signed false (c * k) < 0 := by
    unfold signed
    exact Int.not_lt.mpr (Int.natCast_nonneg _)
  rw [e, compare_ite, if_neg h0]
  split <;> decide
theorem z0 {d : UInt64} {s : Bool} {q : Int} (h : val64 d = .fin s 0 q) : ¬ Jvm.Op.cmpValue (dcmp d 0) .l < 0 := by
  obtain ⟨k, hk, e⟩ := cmp_zero h
  rw [e, Nat.zero_mul, signed_zero]; decide
theorem lt0 {d : UInt64} {c : Nat} {q : Int} (h : val64 d = .fin true c q) (hc : 0 < c) : Jvm.Op.cmpValue (dcmp d 0) .l < 0 := by
  obtain ⟨k, hk, e⟩ := cmp_zero h
  have h0 : signed true (c * k) < 0 := by
    have := Nat.mul_pos hc hk
    unfold signed; simp only [if_true]; omega
  rw [e, compare_ite, if_pos h0]; decide
theorem infN {d : UInt64} (h : val64 d = .inf true) : Jvm.Op.cmpValue (dcmp d 0) .l < 0 := by
  have hz : val64 0 = .fin false 0 b64.qmin := val64_dconst0
  have e : dcmp d 0 = order (val64 d) (val64 0) := rfl
  rw [e, h, hz]; decide
theorem infP {d : UInt64} (h : val64 d = .inf false) : ¬ Jvm.Op.cmpValue (dcmp d 9218868437227405312) .g < 0 := by
  have hz : val64 9218868437227405312 = .inf false := by decide +kernel
  have e : dcmp d 9218868437227405312 = order (val64 d) (val64 9218868437227405312) := rfl
  rw [e, h, hz]; decide
/-- what isAmount asks of its double -/
abbrev Amt (d : UInt64) : Prop := ¬ Jvm.Op.cmpValue (Jvm.FP.dcmp d (Jvm.FP.l2d 0)) .l < 0 ∧ Jvm.Op.cmpValue (Jvm.FP.dcmp d 9218868437227405312) .g < 0
theorem fin_lt {d : UInt64} (h : Jvm.Free.Fl.Fin64 d) : Jvm.Op.cmpValue (Jvm.FP.dcmp d 9218868437227405312) .g < 0 := by rw [Jvm.RoadKit.dcmp_pinf h]; decide
theorem z_eq : Jvm.FP.l2d 0 = 0 := Jvm.RoadKit.l2d_zero
theorem amt_of {d : UInt64} (h1 : ¬ Jvm.Op.cmpValue (dcmp d 0) .l < 0) (h2 : Jvm.Free.Fl.Fin64 d) : Amt d := ⟨by rw [z_eq]; exact h1, fin_lt h2⟩
theorem not_of {d : UInt64} (h1 : Jvm.Op.cmpValue (dcmp d 0) .l < 0) : ¬ Amt d := fun h => h.1 (by rw [z_eq]; exact h1)
theorem neg_shape {x : Int64} (hx : x < 0) : ∃ c q, val64 (l2d x) = .fin true c q ∧ 2 ^ 52 ≤ c ∧ -52 ≤ q := by
  have hx' : x.toInt < 0 := by rw [Int64.lt_iff_toInt_lt] at hx; simpa using hx
  obtain ⟨c, q, e⟩ := l2d_shape x
  rw [decide_eq_true hx'] at e
  have hb := l2d_big (v := x) (by omega)
  obtain ⟨s', c', q', e', hc, hq⟩ := val_big hb.1 hb.2
  rw [e] at e'
  obtain ⟨rfl, rfl, rfl⟩ := Datum.fin.inj e'
  exact ⟨c, q, e, hc, hq⟩
theorem pos_shape {x : Int64} (hx : ¬ x < 0) : ∃ c q, val64 (l2d x) = .fin false c q := by
  have hx' : ¬ x.toInt < 0 := by rw [Int64.lt_iff_toInt_lt] at hx; simpa using hx
  obtain ⟨c, q, e⟩ := l2d_shape x
  rw [decide_eq_false hx'] at e
  exact ⟨c, q, e⟩
theorem amt_l2d (x : Int64) : Amt (Jvm.FP.l2d x) ↔ ¬ x < 0 := by
  constructor
  · intro h hx
    obtain ⟨c, q, e, hc, -⟩ := neg_shape hx
    exact not_of (lt0 e (Nat.lt_of_lt_of_le (by decide) hc)) h
  · intro hx
    obtain ⟨c, q, e⟩ := pos_shape hx
    exact amt_of (ge0 e) (Jvm.Free.Fl.l2d_fin x)
theorem amt_neg (x : Int64) : Amt (Jvm.FP.dneg (Jvm.FP.l2d x)) ↔ ¬ 0 < x := by
  have hf : Jvm.Free.Fl.Fin64 (Jvm.FP.dneg (Jvm.FP.l2d x)) := (Jvm.RoadKit.dneg_mag (Jvm.Free.Fl.l2d_mag x)).fin (by decide)
  have hv : val64 (Jvm.FP.dneg (Jvm.FP.l2d x)) = negate (val64 (l2d x)) := Jvm.FP.val64_dneg _
  by_cases h0 : x < 0
  · obtain ⟨c, q, e, hc, -⟩ := neg_shape h0
    rw [e] at hv
    exact ⟨fun _ q => absurd (Int64.lt_trans q h0) (Int64.lt_irrefl), fun _ => amt_of (ge0 hv) hf⟩
  · by_cases hz : x = 0
    · subst hz
      rw [show l2d (0 : Int64) = 0 from l2d_zero, show val64 0 = .fin false 0 b64.qmin from val64_dconst0] at hv
      exact ⟨fun _ => Int64.lt_irrefl, fun _ => amt_of (z0 hv) hf⟩
    · have hp : 0 < x := by
        rw [Int64.lt_iff_toInt_lt] at h0 ⊢
        have : x.toInt ≠ (0 : Int64).toInt := fun q => hz (Int64.toInt_inj.mp q)
        omega
      obtain ⟨c, q, e⟩ := pos_shape h0
      have hb := l2d_big (v := x) (fun q => hz (Int64.toInt_inj.mp q))
      obtain ⟨s', c', q', e', hc, hq⟩ := val_big hb.1 hb.2
      rw [e] at e' hv
      obtain ⟨rfl, rfl, rfl⟩ := Datum.fin.inj e'
      exact ⟨fun h => absurd h (not_of (lt0 hv (Nat.lt_of_lt_of_le (by decide) hc))), fun h => absurd hp h⟩
theorem v1024 : val64 4652218415073722368 = .fin false (2 ^ 52) (-42) := by decide +kernel
theorem div_fin (x : Int64) : Jvm.Free.Fl.Fin64 (Jvm.FP.ddiv (Jvm.FP.l2d x) 4652218415073722368) :=
  (Jvm.RoadKit.ddiv_mag (L := 1033) (Jvm.Free.Fl.l2d_mag x) (by unfold Jvm.RoadKit.Big64; decide) (by decide) (by decide)).fin (by decide)
theorem amt_div (x : Int64) : Amt (Jvm.FP.ddiv (Jvm.FP.l2d x) 4652218415073722368) ↔ ¬ x < 0 := by
  have hv : val64 (Jvm.FP.ddiv (Jvm.FP.l2d x) 4652218415073722368) = quotient b64 (val64 (l2d x)) (val64 4652218415073722368) := val64_ddiv _ _
  rw [v1024] at hv
  constructor
  · intro h hx
    obtain ⟨c, q, e, hc, hq⟩ := neg_shape hx
    have hft := val64_fits (l2d x)
    rw [e] at hft hv
    obtain ⟨f1, f2, f3, f4⟩ := hft
    have hqm : b64.qmin = -1074 := by decide
    have hr : quotient b64 (.fin true c q) (.fin false (2 ^ 52) (-42)) = .fin true c (q - 10) := by
      show (if (2 ^ 52 : Nat) = 0 then (if c = 0 then Datum.nan else Datum.inf (true != false)) else roundRatio b64 (true != false) c (2 ^ 52) (q - -42)) = _
      rw [if_neg (by decide)]
      refine roundRatio_exact good_b64 (by decide) ⟨f1, by omega, by omega, Or.inr hc⟩ ?_
      rw [show (q - -42 - (q - 10)).toNat = 52 by omega, show (q - 10 - (q - -42)).toNat = 0 by omega]
      simp
    rw [hr] at hv
    exact not_of (lt0 hv (Nat.lt_of_lt_of_le (by decide) hc)) h
  · intro hx
    obtain ⟨c, q, e⟩ := pos_shape hx
    rw [e] at hv
    obtain ⟨s', c', q', e'⟩ := Jvm.Free.Fl.fin64_core.mp (div_fin x)
    have hs : s' = false := by
      have hq : quotient b64 (.fin false c q) (.fin false (2 ^ 52) (-42)) = roundRatio b64 (false != false) c (2 ^ 52) (q - -42) := by
        show (if (2 ^ 52 : Nat) = 0 then (if c = 0 then Datum.nan else Datum.inf (false != false)) else roundRatio b64 (false != false) c (2 ^ 52) (q - -42)) = _
        rw [if_neg (by decide)]
      rw [hq] at hv
      have h2 := congrArg sgn hv
      rw [e', sgn_roundRatio] at h2
      exact h2
    subst hs
    exact amt_of (ge0 e') (div_fin x)
theorem v300 : val64 9094988921128908188 = .fin false 6724873095247260 944 := by decide +kernel
theorem bound_or (s : Bool) (c : Nat) (q : Int) : bound b64 s c q = .inf s ∨ (bound b64 s c q = .fin s c q ∧ q ≤ 971) := by
  unfold bound
  split
  · rename_i h; exact Or.inr ⟨rfl, h⟩
  · exact Or.inl rfl
theorem pow_mul {a b : Nat} (h1 : 2 ^ 52 ≤ a) (h2 : 2 ^ 52 ≤ b) : 2 ^ 104 ≤ a * b := by
  have := Nat.mul_le_mul h1 h2
  rwa [← Nat.pow_add] at this
theorem mul1 {x : Int64} (hx : x ≠ 0) : ∃ s, val64 (dmul (l2d x) 9094988921128908188) = .inf s ∨ ∃ c q, val64 (dmul (l2d x) 9094988921128908188) = .fin s c q ∧ 2 ^ 52 ≤ c ∧ 944 ≤ q := by
  have hb := l2d_big (v := x) (fun q => hx (Int64.toInt_inj.mp q))
  obtain ⟨s, c, q, e, hc, hq⟩ := val_big hb.1 hb.2
  have hv := val64_dmul (l2d x) 9094988921128908188
  rw [e, v300] at hv
  obtain ⟨c', q', g1, g2, g3, g4⟩ := big_round (s != false) (A := c * 6724873095247260) (e := q + 944) (pow_mul hc (by decide)) (by omega)
  have hv' : val64 (dmul (l2d x) 9094988921128908188) = bound b64 (s != false) c' q' := hv.trans g4
  refine ⟨s != false, ?_⟩
  rcases bound_or (s != false) c' q' with h | ⟨h, -⟩
  · exact Or.inl (hv'.trans h)
  · exact Or.inr ⟨c', q', hv'.trans h, g1, by omega⟩
theorem mul2 {x : Int64} (hx : x ≠ 0) : ∃ s, val64 (dmul (dmul (l2d x) 9094988921128908188) 9094988921128908188) = .inf s := by
  obtain ⟨s, h | ⟨c, q, e, hc, hq⟩⟩ := mul1 hx
  · have hv := val64_dmul (dmul (l2d x) 9094988921128908188) 9094988921128908188
    rw [h, v300] at hv
    exact ⟨s != false, hv⟩
  · have hv := val64_dmul (dmul (l2d x) 9094988921128908188) 9094988921128908188
    rw [e, v300] at hv
    obtain ⟨c', q', g1, g2, g3, g4⟩ := big_round (s != false) (A := c * 6724873095247260) (e := q + 944) (pow_mul hc (by decide)) (by omega)
    have hv' : val64 (dmul (dmul (l2d x) 9094988921128908188) 9094988921128908188) = bound b64 (s != false) c' q' := hv.trans g4
    rcases bound_or (s != false) c' q' with h | ⟨h, hq'⟩
    · exact ⟨_, hv'.trans h⟩
    · omega
theorem mul1_nn (x : Int64) : Jvm.Free.Fl.NoNaN64 (Jvm.FP.dmul (Jvm.FP.l2d x) 9094988921128908188) := by
  refine Jvm.Free.Fl.noNaN64_no.mpr ((notNaN_iff _).mpr ?_)
  by_cases hx : x = 0
  · subst hx; decide +kernel
  · obtain ⟨s, h | ⟨c, q, e, -⟩⟩ := mul1 hx
    · intro q; rw [h] at q; cases q
    · intro q'; rw [e] at q'; cases q'
theorem mul2_nn (x : Int64) : Jvm.Free.Fl.NoNaN64 (Jvm.FP.dmul (Jvm.FP.dmul (Jvm.FP.l2d x) 9094988921128908188) 9094988921128908188) := by
  refine Jvm.Free.Fl.noNaN64_no.mpr ((notNaN_iff _).mpr ?_)
  by_cases hx : x = 0
  · subst hx; decide +kernel
  · obtain ⟨s, h⟩ := mul2 hx
    intro q; rw [h] at q; cases q
theorem amt_mul (x : Int64) : Amt (Jvm.FP.dmul (Jvm.FP.dmul (Jvm.FP.l2d x) 9094988921128908188) 9094988921128908188) ↔ x = 0 := by
  constructor
  · intro h
    by_cases hx : x = 0
    · exact hx
    · obtain ⟨s, e⟩ := mul2 hx
      cases s
      · exact absurd h.2 (infP e)
      · exact absurd h (not_of (infN e))
  · intro hx; subst hx; decide +kernel
theorem amt_max : Amt 9218868437227405311 := by decide +kernel
theorem amt_min : ¬ Amt 18442240474082181119 := by decide +kernel
theorem amt_nz : Amt 9223372036854775808 := by decide +kernel
theorem amt_z : Amt (Jvm.FP.l2d 0) := by decide +kernel
end Jvm.OwnFP
namespace Jvm.Pilot.@@N@@
open Jvm Jvm.ClassFile Sem Op Lib Jvm.Free Jvm.Stand Jvm.LawKit Jvm.RoadKit Jvm.OwnKit Bundle Jvm.Pilot.@@N@@.Jvm.D
theorem pn_com_example_ilmarinen_ilmarinen_models_Checks : plainName "com/example/ilmarinen/ilmarinen/models/Checks" = true := by first | (simp [plainName, overriddenIn]; done) | decide +kernel
theorem d1_0 : decode prog_8_method_5_code 0 = .ok (.dload_n 0, 1) := by decide +kernel
theorem d1_1 : decode prog_8_method_5_code 1 = .ok (.dconst 0, 1) := by decide +kernel
theorem d1_2 : decode prog_8_method_5_code 2 = .ok (.dcmp .l, 1) := by decide +kernel
theorem d1_3 : decode prog_8_method_5_code 3 = .ok (.ifCond .lt 15, 3) := by decide +kernel
theorem d1_18 : decode prog_8_method_5_code 18 = .ok (.iconst 0, 1) := by decide +kernel
theorem d1_19 : decode prog_8_method_5_code 19 = .ok (.ireturn, 1) := by decide +kernel
theorem d1_6 : decode prog_8_method_5_code 6 = .ok (.dload_n 0, 1) := by decide +kernel
theorem d1_7 : decode prog_8_method_5_code 7 = .ok (.ldc2_w 40, 3) := by decide +kernel
theorem d1_10 : decode prog_8_method_5_code 10 = .ok (.dcmp .g, 1) := by decide +kernel
theorem d1_11 : decode prog_8_method_5_code 11 = .ok (.ifCond .ge 7, 3) := by decide +kernel
theorem d1_14 : decode prog_8_method_5_code 14 = .ok (.iconst 1, 1) := by decide +kernel
theorem d1_15 : decode prog_8_method_5_code 15 = .ok (.goto 4, 3) := by decide +kernel
set_option maxRecDepth 65536 in
set_option maxHeartbeats 40000000 in
theorem rmA (l : Launch) (Z : State) (a0 : Array Value) (hw : ∀ d ∈ tables_1, d.before a0 Z = true) (ws : List Jvm.Cond) (d : UInt64) (r : Int32) (h0 : Heap) (n0 : Nat) (Z0 : n0 ≤ h0.size) (hr : r = bP (Jvm.OwnFP.Amt d)) :
    Ctr FrameEnd l Z (⟨"com/example/ilmarinen/ilmarinen/models/Checks", "isAmount", "(D)Z"⟩ : MethodName) prog_8_method_5_code 2 (some .boolean) ws ({ frames := 0, cells := 0, slots := 0, locals := 0 } : Room) #[(.double d)] h0 TrueV (PureQ (some (.int r)) h0) := by
  refine Ctr.intro (plainFor_of_name pn_com_example_ilmarinen_ilmarinen_models_Checks) (Ls := #[.val (.double d), .second]) (fun m => by first | (simp [entryFrame, mkF, argsToLocals, Value.category]; done) | rfl) ?_
  intro p e s m below meth c T0 hx hby hml hown hnm hret hlk hZ hV hsh e0 X0
  have N0 := Fr.nil n0
  show Done _ p e below s _ _ (T0.setTop (mkF m 0 #[.val (.double d), .second] []))
  refine Done.step (fun _ => XS.dloadN X0.here hx rfl (hb hby d1_0) rfl) ?_
  show Done _ p e below s _ _ (T0.setTop (mkF m 1 #[.val (.double d), .second] [(.double d)]))
  refine Done.step (fun _ => XS.dconst0 X0.here hx rfl (v := (FP.l2d (0 : Int64))) (hb hby d1_1) (by decide +kernel)) ?_
  show Done _ p e below s _ _ (T0.setTop (mkF m 2 #[.val (.double d), .second] [(.double (FP.l2d (0 : Int64))), (.double d)]))
  refine Done.step (fun _ => XS.dcmpS X0.here hx rfl (v := (cmpValue (FP.dcmp d (FP.l2d (0 : Int64))) .l)) (hb hby d1_2) rfl rfl) ?_
  show Done _ p e below s _ _ (T0.setTop (mkF m 3 #[.val (.double d), .second] [(.int (cmpValue (FP.dcmp d (FP.l2d (0 : Int64))) .l))]))
  by_cases hc1 : (cmpValue (FP.dcmp d (FP.l2d (0 : Int64))) .l) < (0 : Int32)
  · refine Done.step (fun _ => XS.ifYes X0.here hx rfl (pc0 := 3) (pc' := 18) rfl (hb hby d1_3) rfl (XT.i0_lt_t hc1) (by decide) (by decide)) ?_
    show Done _ p e below s _ _ (T0.setTop (mkF m 18 #[.val (.double d), .second] []))
    refine Done.step (fun _ => XT.iconstV X0.here hx rfl (0 : Int32) (hb hby d1_18) (by decide)) ?_
    show Done _ p e below s _ _ (T0.setTop (mkF m 19 #[.val (.double d), .second] [(.int (0 : Int32))]))
    exact Done.retN (leavesF X0 hlk (by decide) (by decide)) X0 hx (t := .boolean) hret (by simp) (hb hby d1_19) ⟨by rw [hr, bP_f (fun q => q.1 hc1)]; rfl, e0, rfl⟩
  · refine Done.step (fun _ => XS.ifNo X0.here hx rfl (hb hby d1_3) rfl (XT.i0_lt_f hc1)) ?_
    show Done _ p e below s _ _ (T0.setTop (mkF m 6 #[.val (.double d), .second] []))
    refine Done.step (fun _ => XS.dloadN X0.here hx rfl (hb hby d1_6) rfl) ?_
    show Done _ p e below s _ _ (T0.setTop (mkF m 7 #[.val (.double d), .second] [(.double d)]))
    refine Done.step (X0.ldc2DoubleC hx hown (mvT hZ (wAt hw 5 rfl)) (g := (mkF m 7 #[.val (.double d), .second] [(.double d)])) rfl (hb hby d1_7)) ?_
    show Done _ p e below s _ _ (T0.setTop (mkF m 10 #[.val (.double d), .second] [(.double (9218868437227405312 : UInt64)), (.double d)]))
    refine Done.step (fun _ => XS.dcmpS X0.here hx rfl (v := (cmpValue (FP.dcmp d (9218868437227405312 : UInt64)) .g)) (hb hby d1_10) rfl rfl) ?_
    show Done _ p e below s _ _ (T0.setTop (mkF m 11 #[.val (.double d), .second] [(.int (cmpValue (FP.dcmp d (9218868437227405312 : UInt64)) .g))]))
    by_cases hc2 : (cmpValue (FP.dcmp d (9218868437227405312 : UInt64)) .g) < (0 : Int32)
    · refine Done.step (fun _ => XS.ifNo X0.here hx rfl (hb hby d1_11) rfl (XT.i0_ge_f hc2)) ?_
      show Done _ p e below s _ _ (T0.setTop (mkF m 14 #[.val (.double d), .second] []))
      refine Done.step (fun _ => XT.iconstV X0.here hx rfl (1 : Int32) (hb hby d1_14) (by decide)) ?_
      show Done _ p e below s _ _ (T0.setTop (mkF m 15 #[.val (.double d), .second] [(.int (1 : Int32))]))
      refine Done.step (fun _ => XS.goto X0.here hx rfl (pc0 := 15) (pc' := 19) rfl (hb hby d1_15) (by decide) (by decide)) ?_
      show Done _ p e below s _ _ (T0.setTop (mkF m 19 #[.val (.double d), .second] [(.int (1 : Int32))]))
      exact Done.retN (leavesF X0 hlk (by decide) (by decide)) X0 hx (t := .boolean) hret (by simp) (hb hby d1_19) ⟨by rw [hr, bP_t ⟨hc1, hc2⟩]; rfl, e0, rfl⟩
    · refine Done.step (fun _ => XS.ifYes X0.here hx rfl (pc0 := 11) (pc' := 18) rfl (hb hby d1_11) rfl (XT.i0_ge_t hc2) (by decide) (by decide)) ?_
      show Done _ p e below s _ _ (T0.setTop (mkF m 18 #[.val (.double d), .second] []))
      refine Done.step (fun _ => XT.iconstV X0.here hx rfl (0 : Int32) (hb hby d1_18) (by decide)) ?_
      show Done _ p e below s _ _ (T0.setTop (mkF m 19 #[.val (.double d), .second] [(.int (0 : Int32))]))
      exact Done.retN (leavesF X0 hlk (by decide) (by decide)) X0 hx (t := .boolean) hret (by simp) (hb hby d1_19) ⟨by rw [hr, bP_f (fun q => hc2 q.2)]; rfl, e0, rfl⟩
theorem pn_com_example_ilmarinen_ilmarinen_models_ChecksIsAmountPinLaw : plainName "com/example/ilmarinen/ilmarinen/models/ChecksIsAmountPinLaw" = true := by first | (simp [plainName, overriddenIn]; done) | decide +kernel
theorem pd_0 : parseMethodDescriptor "(D)Z" = some ⟨[.double], some .boolean⟩ := by decide +kernel
set_option maxRecDepth 65536 in
set_option maxHeartbeats 40000000 in
theorem rm0 (l : Launch) (Z : State) (a0 : Array Value) (hw : ∀ d ∈ tables_1, d.before a0 Z = true) (ws : List Jvm.Cond) (xv : Int64) (sel : Int32) (h0 : Heap) (n0 : Nat) (Z0 : n0 ≤ h0.size)  :
    Ctr FrameEnd l Z x code maxLocals ret ws room_1 #[(.long xv), (.int sel)] h0 TrueV (LawQ n0) := by
  refine Ctr.intro (plainFor_of_name pn_com_example_ilmarinen_ilmarinen_models_ChecksIsAmountPinLaw) (Ls := #[.val (.long xv), .second, .val (.int sel), .unset, .unset, .unset, .unset]) (fun m => by first | (simp [entryFrame, mkF, argsToLocals, Value.category, maxLocals]; done) | rfl) ?_
  intro p e s m below meth c T0 hx hby hml hown hnm hret hlk hZ hV hsh e0 X0
  have N0 := Fr.nil n0
  have hown : s.vm.findClass "com/example/ilmarinen/ilmarinen/models/ChecksIsAmountPinLaw" = some m.cls := hown
  have hret : meth.sig.returnType = (some .boolean) := hret
  have hml : c.maxLocals = 7 := hml
  show Done _ p e below s _ _ (T0.setTop (mkF m 0 #[.val (.long xv), .second, .val (.int sel), .unset, .unset, .unset, .unset] []))
  refine Done.step (fun _ => XS.iloadN X0.here hx rfl (hb hby at_0) rfl) ?_
  show Done _ p e below s _ _ (T0.setTop (mkF m 1 #[.val (.long xv), .second, .val (.int sel), .unset, .unset, .unset, .unset] [(.int sel)]))
  refine Done.step (fun _ => XT.bipushV X0.here hx rfl (7 : Int32) (hb hby at_1) (by decide)) ?_
  show Done _ p e below s _ _ (T0.setTop (mkF m 3 #[.val (.long xv), .second, .val (.int sel), .unset, .unset, .unset, .unset] [(.int (7 : Int32)), (.int sel)]))
  refine Done.step (fun _ => XS.iand X0.here hx rfl (hb hby at_3) rfl) ?_
  show Done _ p e below s _ _ (T0.setTop (mkF m 4 #[.val (.long xv), .second, .val (.int sel), .unset, .unset, .unset, .unset] [(.int (sel &&& (7 : Int32)))]))
  refine Done.step (fun _ => XS.istoreN X0.here hx rfl (hb hby at_4) rfl (l' := #[.val (.long xv), .second, .val (.int sel), .val (.int (sel &&& (7 : Int32))), .unset, .unset, .unset]) rfl) ?_
  show Done _ p e below s _ _ (T0.setTop (mkF m 5 #[.val (.long xv), .second, .val (.int sel), .val (.int (sel &&& (7 : Int32))), .unset, .unset, .unset] []))
  have K175 : ∀ (d : UInt64) (ex : Int32) (hex : ex = bP (Jvm.OwnFP.Amt d)), Done FrameEnd p e below s room_1 (LawQ n0) (T0.setTop (mkF m 175 #[.val (.long xv), .second, .val (.int sel), .val (.int (sel &&& (7 : Int32))), .val (.double d), .second, .val (.int ex)] [])) := by
    intro d ex hex
    show Done _ p e below s _ _ (T0.setTop (mkF m 175 #[.val (.long xv), .second, .val (.int sel), .val (.int (sel &&& (7 : Int32))), .val (.double d), .second, .val (.int ex)] []))
    refine Done.step (fun _ => XS.dload X0.here hx rfl (hb hby at_175) rfl) ?_
    show Done _ p e below s _ _ (T0.setTop (mkF m 177 #[.val (.long xv), .second, .val (.int sel), .val (.int (sel &&& (7 : Int32))), .val (.double d), .second, .val (.int ex)] [(.double d)]))
    by_cases hc1 : Jvm.OwnFP.Amt d
    · refine Done.callSP X0 hx hZ hown (wAt hw 1 rfl) (wAt hw 2 rfl) (wAt hw 3 rfl) (wAt hw 4 rfl) (by decide) (rmA l Z a0 hw [] d (1 : Int32) h0 n0 Z0 (bP_t hc1).symm) e0 (g := (mkF m 177 #[.val (.long xv), .second, .val (.int sel), .val (.int (sel &&& (7 : Int32))), .val (.double d), .second, .val (.int ex)] [(.double d)])) rfl (by rw [hml]; rfl) [(.double d)] [] 0 (lenOf pd_0 rfl) rfl rfl (by show 2 * 0 + _ ≤ _; exact Nat.le_of_eq rfl) (hb hby at_177) (by decide) (by decide) (by decide) (by decide) rfl rfl ?_
      intro T2 X2 e2
      show Done _ p e below s _ _ (T2.setTop (mkF m 180 #[.val (.long xv), .second, .val (.int sel), .val (.int (sel &&& (7 : Int32))), .val (.double d), .second, .val (.int ex)] [(.int (1 : Int32))]))
      refine Done.step (fun _ => XS.iload X2.here hx rfl (hb hby at_180) rfl) ?_
      show Done _ p e below s _ _ (T2.setTop (mkF m 182 #[.val (.long xv), .second, .val (.int sel), .val (.int (sel &&& (7 : Int32))), .val (.double d), .second, .val (.int ex)] [(.int ex), (.int (1 : Int32))]))
      refine Done.step (fun _ => XS.icmpNo X2.here hx rfl (hb hby at_182) rfl (XT.ii_ne_f (hex.trans (bP_t hc1)).symm)) ?_
      show Done _ p e below s _ _ (T2.setTop (mkF m 185 #[.val (.long xv), .second, .val (.int sel), .val (.int (sel &&& (7 : Int32))), .val (.double d), .second, .val (.int ex)] []))
      refine Done.step (fun _ => XT.iconstV X2.here hx rfl (1 : Int32) (hb hby at_185) (by decide)) ?_
      show Done _ p e below s _ _ (T2.setTop (mkF m 186 #[.val (.long xv), .second, .val (.int sel), .val (.int (sel &&& (7 : Int32))), .val (.double d), .second, .val (.int ex)] [(.int (1 : Int32))]))
      refine Done.step (fun _ => XS.goto X2.here hx rfl (pc0 := 186) (pc' := 190) rfl (hb hby at_186) (by decide) (by decide)) ?_
      show Done _ p e below s _ _ (T2.setTop (mkF m 190 #[.val (.long xv), .second, .val (.int sel), .val (.int (sel &&& (7 : Int32))), .val (.double d), .second, .val (.int ex)] [(.int (1 : Int32))]))
      exact Done.retN (leavesF X2 hlk (by decide) (by decide)) X2 hx (t := .boolean) hret (by simp) (hb hby at_190) ⟨rfl, N0⟩
    · refine Done.callSP X0 hx hZ hown (wAt hw 1 rfl) (wAt hw 2 rfl) (wAt hw 3 rfl) (wAt hw 4 rfl) (by decide) (rmA l Z a0 hw [] d (0 : Int32) h0 n0 Z0 (bP_f hc1).symm) e0 (g := (mkF m 177 #[.val (.long xv), .second, .val (.int sel), .val (.int (sel &&& (7 : Int32))), .val (.double d), .second, .val (.int ex)] [(.double d)])) rfl (by rw [hml]; rfl) [(.double d)] [] 0 (lenOf pd_0 rfl) rfl rfl (by show 2 * 0 + _ ≤ _; exact Nat.le_of_eq rfl) (hb hby at_177) (by decide) (by decide) (by decide) (by decide) rfl rfl ?_
      intro T3 X3 e3
      show Done _ p e below s _ _ (T3.setTop (mkF m 180 #[.val (.long xv), .second, .val (.int sel), .val (.int (sel &&& (7 : Int32))), .val (.double d), .second, .val (.int ex)] [(.int (0 : Int32))]))
      refine Done.step (fun _ => XS.iload X3.here hx rfl (hb hby at_180) rfl) ?_
      show Done _ p e below s _ _ (T3.setTop (mkF m 182 #[.val (.long xv), .second, .val (.int sel), .val (.int (sel &&& (7 : Int32))), .val (.double d), .second, .val (.int ex)] [(.int ex), (.int (0 : Int32))]))
      refine Done.step (fun _ => XS.icmpNo X3.here hx rfl (hb hby at_182) rfl (XT.ii_ne_f (hex.trans (bP_f hc1)).symm)) ?_
      show Done _ p e below s _ _ (T3.setTop (mkF m 185 #[.val (.long xv), .second, .val (.int sel), .val (.int (sel &&& (7 : Int32))), .val (.double d), .second, .val (.int ex)] []))
      refine Done.step (fun _ => XT.iconstV X3.here hx rfl (1 : Int32) (hb hby at_185) (by decide)) ?_
      show Done _ p e below s _ _ (T3.setTop (mkF m 186 #[.val (.long xv), .second, .val (.int sel), .val (.int (sel &&& (7 : Int32))), .val (.double d), .second, .val (.int ex)] [(.int (1 : Int32))]))
      refine Done.step (fun _ => XS.goto X3.here hx rfl (pc0 := 186) (pc' := 190) rfl (hb hby at_186) (by decide) (by decide)) ?_
      show Done _ p e below s _ _ (T3.setTop (mkF m 190 #[.val (.long xv), .second, .val (.int sel), .val (.int (sel &&& (7 : Int32))), .val (.double d), .second, .val (.int ex)] [(.int (1 : Int32))]))
      exact Done.retN (leavesF X3 hlk (by decide) (by decide)) X3 hx (t := .boolean) hret (by simp) (hb hby at_190) ⟨rfl, N0⟩
  refine Done.step (fun _ => XS.iloadN X0.here hx rfl (hb hby at_5) rfl) ?_
  show Done _ p e below s _ _ (T0.setTop (mkF m 6 #[.val (.long xv), .second, .val (.int sel), .val (.int (sel &&& (7 : Int32))), .unset, .unset, .unset] [(.int (sel &&& (7 : Int32)))]))
  by_cases hc4 : (sel &&& (7 : Int32)) = (0 : Int32)
  · refine Done.step (fun _ => XS.ifNo X0.here hx rfl (hb hby at_6) rfl (XT.i0_ne_f hc4)) ?_
    show Done _ p e below s _ _ (T0.setTop (mkF m 9 #[.val (.long xv), .second, .val (.int sel), .val (.int (sel &&& (7 : Int32))), .unset, .unset, .unset] []))
    refine Done.step (fun _ => XT.lloadN X0.here hx rfl (hb hby at_9) rfl) ?_
    show Done _ p e below s _ _ (T0.setTop (mkF m 10 #[.val (.long xv), .second, .val (.int sel), .val (.int (sel &&& (7 : Int32))), .unset, .unset, .unset] [(.long xv)]))
    refine Done.step (fun _ => XS.l2dS X0.here hx rfl (v := FP.l2d xv) (hb hby at_10) rfl rfl) ?_
    show Done _ p e below s _ _ (T0.setTop (mkF m 11 #[.val (.long xv), .second, .val (.int sel), .val (.int (sel &&& (7 : Int32))), .unset, .unset, .unset] [(.double (FP.l2d xv))]))
    refine Done.step (fun _ => XS.dstore X0.here hx rfl (hb hby at_11) rfl (l' := #[.val (.long xv), .second, .val (.int sel), .val (.int (sel &&& (7 : Int32))), .val (.double (FP.l2d xv)), .second, .unset]) rfl) ?_
    show Done _ p e below s _ _ (T0.setTop (mkF m 13 #[.val (.long xv), .second, .val (.int sel), .val (.int (sel &&& (7 : Int32))), .val (.double (FP.l2d xv)), .second, .unset] []))
    refine Done.step (fun _ => XT.lloadN X0.here hx rfl (hb hby at_13) rfl) ?_
    show Done _ p e below s _ _ (T0.setTop (mkF m 14 #[.val (.long xv), .second, .val (.int sel), .val (.int (sel &&& (7 : Int32))), .val (.double (FP.l2d xv)), .second, .unset] [(.long xv)]))
    refine Done.step (fun _ => XT.lconstV X0.here hx rfl (0 : Int64) (hb hby at_14) (by decide)) ?_
    show Done _ p e below s _ _ (T0.setTop (mkF m 15 #[.val (.long xv), .second, .val (.int sel), .val (.int (sel &&& (7 : Int32))), .val (.double (FP.l2d xv)), .second, .unset] [(.long (0 : Int64)), (.long xv)]))
    refine Done.step (fun _ => XT.lcmp X0.here hx rfl (hb hby at_15) rfl) ?_
    show Done _ p e below s _ _ (T0.setTop (mkF m 16 #[.val (.long xv), .second, .val (.int sel), .val (.int (sel &&& (7 : Int32))), .val (.double (FP.l2d xv)), .second, .unset] [(.int (XT.cmpL xv (0 : Int64)))]))
    by_cases hc5 : xv < (0 : Int64)
    · refine Done.step (fun _ => XS.ifYes X0.here hx rfl (pc0 := 16) (pc' := 23) rfl (hb hby at_16) rfl (XT.ll_lt_t hc5) (by decide) (by decide)) ?_
      show Done _ p e below s _ _ (T0.setTop (mkF m 23 #[.val (.long xv), .second, .val (.int sel), .val (.int (sel &&& (7 : Int32))), .val (.double (FP.l2d xv)), .second, .unset] []))
      refine Done.step (fun _ => XT.iconstV X0.here hx rfl (0 : Int32) (hb hby at_23) (by decide)) ?_
      show Done _ p e below s _ _ (T0.setTop (mkF m 24 #[.val (.long xv), .second, .val (.int sel), .val (.int (sel &&& (7 : Int32))), .val (.double (FP.l2d xv)), .second, .unset] [(.int (0 : Int32))]))
      refine Done.step (fun _ => XS.istore X0.here hx rfl (hb hby at_24) rfl (l' := #[.val (.long xv), .second, .val (.int sel), .val (.int (sel &&& (7 : Int32))), .val (.double (FP.l2d xv)), .second, .val (.int (0 : Int32))]) rfl) ?_
      show Done _ p e below s _ _ (T0.setTop (mkF m 26 #[.val (.long xv), .second, .val (.int sel), .val (.int (sel &&& (7 : Int32))), .val (.double (FP.l2d xv)), .second, .val (.int (0 : Int32))] []))
      refine Done.step (fun _ => XS.goto X0.here hx rfl (pc0 := 26) (pc' := 175) rfl (hb hby at_26) (by decide) (by decide)) ?_
      show Done _ p e below s _ _ (T0.setTop (mkF m 175 #[.val (.long xv), .second, .val (.int sel), .val (.int (sel &&& (7 : Int32))), .val (.double (FP.l2d xv)), .second, .val (.int (0 : Int32))] []))
      exact K175 (FP.l2d xv) (0 : Int32) (bP_f (fun q => (Jvm.OwnFP.amt_l2d xv).mp q hc5)).symm
    · refine Done.step (fun _ => XS.ifNo X0.here hx rfl (hb hby at_16) rfl (XT.ll_lt_f hc5)) ?_
      show Done _ p e below s _ _ (T0.setTop (mkF m 19 #[.val (.long xv), .second, .val (.int sel), .val (.int (sel &&& (7 : Int32))), .val (.double (FP.l2d xv)), .second, .unset] []))
      refine Done.step (fun _ => XT.iconstV X0.here hx rfl (1 : Int32) (hb hby at_19) (by decide)) ?_
      show Done _ p e below s _ _ (T0.setTop (mkF m 20 #[.val (.long xv), .second, .val (.int sel), .val (.int (sel &&& (7 : Int32))), .val (.double (FP.l2d xv)), .second, .unset] [(.int (1 : Int32))]))
      refine Done.step (fun _ => XS.goto X0.here hx rfl (pc0 := 20) (pc' := 24) rfl (hb hby at_20) (by decide) (by decide)) ?_
      show Done _ p e below s _ _ (T0.setTop (mkF m 24 #[.val (.long xv), .second, .val (.int sel), .val (.int (sel &&& (7 : Int32))), .val (.double (FP.l2d xv)), .second, .unset] [(.int (1 : Int32))]))
      refine Done.step (fun _ => XS.istore X0.here hx rfl (hb hby at_24) rfl (l' := #[.val (.long xv), .second, .val (.int sel), .val (.int (sel &&& (7 : Int32))), .val (.double (FP.l2d xv)), .second, .val (.int (1 : Int32))]) rfl) ?_
      show Done _ p e below s _ _ (T0.setTop (mkF m 26 #[.val (.long xv), .second, .val (.int sel), .val (.int (sel &&& (7 : Int32))), .val (.double (FP.l2d xv)), .second, .val (.int (1 : Int32))] []))
      refine Done.step (fun _ => XS.goto X0.here hx rfl (pc0 := 26) (pc' := 175) rfl (hb hby at_26) (by decide) (by decide)) ?_
      show Done _ p e below s _ _ (T0.setTop (mkF m 175 #[.val (.long xv), .second, .val (.int sel), .val (.int (sel &&& (7 : Int32))), .val (.double (FP.l2d xv)), .second, .val (.int (1 : Int32))] []))
      exact K175 (FP.l2d xv) (1 : Int32) (bP_t ((Jvm.OwnFP.amt_l2d xv).mpr hc5)).symm
  · refine Done.step (fun _ => XS.ifYes X0.here hx rfl (pc0 := 6) (pc' := 29) rfl (hb hby at_6) rfl (XT.i0_ne_t hc4) (by decide) (by decide)) ?_
    show Done _ p e below s _ _ (T0.setTop (mkF m 29 #[.val (.long xv), .second, .val (.int sel), .val (.int (sel &&& (7 : Int32))), .unset, .unset, .unset] []))
    refine Done.step (fun _ => XS.iloadN X0.here hx rfl (hb hby at_29) rfl) ?_
    show Done _ p e below s _ _ (T0.setTop (mkF m 30 #[.val (.long xv), .second, .val (.int sel), .val (.int (sel &&& (7 : Int32))), .unset, .unset, .unset] [(.int (sel &&& (7 : Int32)))]))
    refine Done.step (fun _ => XT.iconstV X0.here hx rfl (1 : Int32) (hb hby at_30) (by decide)) ?_
    show Done _ p e below s _ _ (T0.setTop (mkF m 31 #[.val (.long xv), .second, .val (.int sel), .val (.int (sel &&& (7 : Int32))), .unset, .unset, .unset] [(.int (1 : Int32)), (.int (sel &&& (7 : Int32)))]))
    by_cases hc6 : (sel &&& (7 : Int32)) = (1 : Int32)
    · refine Done.step (fun _ => XS.icmpNo X0.here hx rfl (hb hby at_31) rfl (XT.ii_ne_f hc6)) ?_
      show Done _ p e below s _ _ (T0.setTop (mkF m 34 #[.val (.long xv), .second, .val (.int sel), .val (.int (sel &&& (7 : Int32))), .unset, .unset, .unset] []))
      refine Done.step (fun _ => XT.lloadN X0.here hx rfl (hb hby at_34) rfl) ?_
      show Done _ p e below s _ _ (T0.setTop (mkF m 35 #[.val (.long xv), .second, .val (.int sel), .val (.int (sel &&& (7 : Int32))), .unset, .unset, .unset] [(.long xv)]))
      refine Done.step (fun _ => XS.l2dS X0.here hx rfl (v := FP.l2d xv) (hb hby at_35) rfl rfl) ?_
      show Done _ p e below s _ _ (T0.setTop (mkF m 36 #[.val (.long xv), .second, .val (.int sel), .val (.int (sel &&& (7 : Int32))), .unset, .unset, .unset] [(.double (FP.l2d xv))]))
      refine Done.step (X0.ldc2DoubleC hx hown (mvT hZ (wAt hw 9 rfl)) (g := (mkF m 36 #[.val (.long xv), .second, .val (.int sel), .val (.int (sel &&& (7 : Int32))), .unset, .unset, .unset] [(.double (FP.l2d xv))])) rfl (hb hby at_36)) ?_
      show Done _ p e below s _ _ (T0.setTop (mkF m 39 #[.val (.long xv), .second, .val (.int sel), .val (.int (sel &&& (7 : Int32))), .unset, .unset, .unset] [(.double (4652218415073722368 : UInt64)), (.double (FP.l2d xv))]))
      refine Done.step (fun _ => XS.ddivS X0.here hx rfl (v := (FP.ddiv (FP.l2d xv) (4652218415073722368 : UInt64))) (hb hby at_39) rfl (Jvm.OwnFP.div_fin xv).noNaN rfl) ?_
      show Done _ p e below s _ _ (T0.setTop (mkF m 40 #[.val (.long xv), .second, .val (.int sel), .val (.int (sel &&& (7 : Int32))), .unset, .unset, .unset] [(.double (FP.ddiv (FP.l2d xv) (4652218415073722368 : UInt64)))]))
      refine Done.step (fun _ => XS.dstore X0.here hx rfl (hb hby at_40) rfl (l' := #[.val (.long xv), .second, .val (.int sel), .val (.int (sel &&& (7 : Int32))), .val (.double (FP.ddiv (FP.l2d xv) (4652218415073722368 : UInt64))), .second, .unset]) rfl) ?_
      show Done _ p e below s _ _ (T0.setTop (mkF m 42 #[.val (.long xv), .second, .val (.int sel), .val (.int (sel &&& (7 : Int32))), .val (.double (FP.ddiv (FP.l2d xv) (4652218415073722368 : UInt64))), .second, .unset] []))
      refine Done.step (fun _ => XT.lloadN X0.here hx rfl (hb hby at_42) rfl) ?_
      show Done _ p e below s _ _ (T0.setTop (mkF m 43 #[.val (.long xv), .second, .val (.int sel), .val (.int (sel &&& (7 : Int32))), .val (.double (FP.ddiv (FP.l2d xv) (4652218415073722368 : UInt64))), .second, .unset] [(.long xv)]))
      refine Done.step (fun _ => XT.lconstV X0.here hx rfl (0 : Int64) (hb hby at_43) (by decide)) ?_
      show Done _ p e below s _ _ (T0.setTop (mkF m 44 #[.val (.long xv), .second, .val (.int sel), .val (.int (sel &&& (7 : Int32))), .val (.double (FP.ddiv (FP.l2d xv) (4652218415073722368 : UInt64))), .second, .unset] [(.long (0 : Int64)), (.long xv)]))
      refine Done.step (fun _ => XT.lcmp X0.here hx rfl (hb hby at_44) rfl) ?_
      show Done _ p e below s _ _ (T0.setTop (mkF m 45 #[.val (.long xv), .second, .val (.int sel), .val (.int (sel &&& (7 : Int32))), .val (.double (FP.ddiv (FP.l2d xv) (4652218415073722368 : UInt64))), .second, .unset] [(.int (XT.cmpL xv (0 : Int64)))]))
      by_cases hc7 : xv < (0 : Int64)
      · refine Done.step (fun _ => XS.ifYes X0.here hx rfl (pc0 := 45) (pc' := 52) rfl (hb hby at_45) rfl (XT.ll_lt_t hc7) (by decide) (by decide)) ?_
        show Done _ p e below s _ _ (T0.setTop (mkF m 52 #[.val (.long xv), .second, .val (.int sel), .val (.int (sel &&& (7 : Int32))), .val (.double (FP.ddiv (FP.l2d xv) (4652218415073722368 : UInt64))), .second, .unset] []))
        refine Done.step (fun _ => XT.iconstV X0.here hx rfl (0 : Int32) (hb hby at_52) (by decide)) ?_
        show Done _ p e below s _ _ (T0.setTop (mkF m 53 #[.val (.long xv), .second, .val (.int sel), .val (.int (sel &&& (7 : Int32))), .val (.double (FP.ddiv (FP.l2d xv) (4652218415073722368 : UInt64))), .second, .unset] [(.int (0 : Int32))]))
        refine Done.step (fun _ => XS.istore X0.here hx rfl (hb hby at_53) rfl (l' := #[.val (.long xv), .second, .val (.int sel), .val (.int (sel &&& (7 : Int32))), .val (.double (FP.ddiv (FP.l2d xv) (4652218415073722368 : UInt64))), .second, .val (.int (0 : Int32))]) rfl) ?_
        show Done _ p e below s _ _ (T0.setTop (mkF m 55 #[.val (.long xv), .second, .val (.int sel), .val (.int (sel &&& (7 : Int32))), .val (.double (FP.ddiv (FP.l2d xv) (4652218415073722368 : UInt64))), .second, .val (.int (0 : Int32))] []))
        refine Done.step (fun _ => XS.goto X0.here hx rfl (pc0 := 55) (pc' := 175) rfl (hb hby at_55) (by decide) (by decide)) ?_
        show Done _ p e below s _ _ (T0.setTop (mkF m 175 #[.val (.long xv), .second, .val (.int sel), .val (.int (sel &&& (7 : Int32))), .val (.double (FP.ddiv (FP.l2d xv) (4652218415073722368 : UInt64))), .second, .val (.int (0 : Int32))] []))
        exact K175 (FP.ddiv (FP.l2d xv) (4652218415073722368 : UInt64)) (0 : Int32) (bP_f (fun q => (Jvm.OwnFP.amt_div xv).mp q hc7)).symm
      · refine Done.step (fun _ => XS.ifNo X0.here hx rfl (hb hby at_45) rfl (XT.ll_lt_f hc7)) ?_
        show Done _ p e below s _ _ (T0.setTop (mkF m 48 #[.val (.long xv), .second, .val (.int sel), .val (.int (sel &&& (7 : Int32))), .val (.double (FP.ddiv (FP.l2d xv) (4652218415073722368 : UInt64))), .second, .unset] []))
        refine Done.step (fun _ => XT.iconstV X0.here hx rfl (1 : Int32) (hb hby at_48) (by decide)) ?_
        show Done _ p e below s _ _ (T0.setTop (mkF m 49 #[.val (.long xv), .second, .val (.int sel), .val (.int (sel &&& (7 : Int32))), .val (.double (FP.ddiv (FP.l2d xv) (4652218415073722368 : UInt64))), .second, .unset] [(.int (1 : Int32))]))
        refine Done.step (fun _ => XS.goto X0.here hx rfl (pc0 := 49) (pc' := 53) rfl (hb hby at_49) (by decide) (by decide)) ?_
        show Done _ p e below s _ _ (T0.setTop (mkF m 53 #[.val (.long xv), .second, .val (.int sel), .val (.int (sel &&& (7 : Int32))), .val (.double (FP.ddiv (FP.l2d xv) (4652218415073722368 : UInt64))), .second, .unset] [(.int (1 : Int32))]))
        refine Done.step (fun _ => XS.istore X0.here hx rfl (hb hby at_53) rfl (l' := #[.val (.long xv), .second, .val (.int sel), .val (.int (sel &&& (7 : Int32))), .val (.double (FP.ddiv (FP.l2d xv) (4652218415073722368 : UInt64))), .second, .val (.int (1 : Int32))]) rfl) ?_
        show Done _ p e below s _ _ (T0.setTop (mkF m 55 #[.val (.long xv), .second, .val (.int sel), .val (.int (sel &&& (7 : Int32))), .val (.double (FP.ddiv (FP.l2d xv) (4652218415073722368 : UInt64))), .second, .val (.int (1 : Int32))] []))
        refine Done.step (fun _ => XS.goto X0.here hx rfl (pc0 := 55) (pc' := 175) rfl (hb hby at_55) (by decide) (by decide)) ?_
        show Done _ p e below s _ _ (T0.setTop (mkF m 175 #[.val (.long xv), .second, .val (.int sel), .val (.int (sel &&& (7 : Int32))), .val (.double (FP.ddiv (FP.l2d xv) (4652218415073722368 : UInt64))), .second, .val (.int (1 : Int32))] []))
        exact K175 (FP.ddiv (FP.l2d xv) (4652218415073722368 : UInt64)) (1 : Int32) (bP_t ((Jvm.OwnFP.amt_div xv).mpr hc7)).symm
    · refine Done.step (fun _ => XS.icmpYes X0.here hx rfl (pc0 := 31) (pc' := 58) rfl (hb hby at_31) rfl (XT.ii_ne_t hc6) (by decide) (by decide)) ?_
      show Done _ p e below s _ _ (T0.setTop (mkF m 58 #[.val (.long xv), .second, .val (.int sel), .val (.int (sel &&& (7 : Int32))), .unset, .unset, .unset] []))
      refine Done.step (fun _ => XS.iloadN X0.here hx rfl (hb hby at_58) rfl) ?_
      show Done _ p e below s _ _ (T0.setTop (mkF m 59 #[.val (.long xv), .second, .val (.int sel), .val (.int (sel &&& (7 : Int32))), .unset, .unset, .unset] [(.int (sel &&& (7 : Int32)))]))
      refine Done.step (fun _ => XT.iconstV X0.here hx rfl (2 : Int32) (hb hby at_59) (by decide)) ?_
      show Done _ p e below s _ _ (T0.setTop (mkF m 60 #[.val (.long xv), .second, .val (.int sel), .val (.int (sel &&& (7 : Int32))), .unset, .unset, .unset] [(.int (2 : Int32)), (.int (sel &&& (7 : Int32)))]))
      by_cases hc8 : (sel &&& (7 : Int32)) = (2 : Int32)
      · refine Done.step (fun _ => XS.icmpNo X0.here hx rfl (hb hby at_60) rfl (XT.ii_ne_f hc8)) ?_
        show Done _ p e below s _ _ (T0.setTop (mkF m 63 #[.val (.long xv), .second, .val (.int sel), .val (.int (sel &&& (7 : Int32))), .unset, .unset, .unset] []))
        refine Done.step (fun _ => XT.lloadN X0.here hx rfl (hb hby at_63) rfl) ?_
        show Done _ p e below s _ _ (T0.setTop (mkF m 64 #[.val (.long xv), .second, .val (.int sel), .val (.int (sel &&& (7 : Int32))), .unset, .unset, .unset] [(.long xv)]))
        refine Done.step (fun _ => XS.l2dS X0.here hx rfl (v := FP.l2d xv) (hb hby at_64) rfl rfl) ?_
        show Done _ p e below s _ _ (T0.setTop (mkF m 65 #[.val (.long xv), .second, .val (.int sel), .val (.int (sel &&& (7 : Int32))), .unset, .unset, .unset] [(.double (FP.l2d xv))]))
        refine Done.step (X0.ldc2DoubleC hx hown (mvT hZ (wAt hw 0 rfl)) (g := (mkF m 65 #[.val (.long xv), .second, .val (.int sel), .val (.int (sel &&& (7 : Int32))), .unset, .unset, .unset] [(.double (FP.l2d xv))])) rfl (hb hby at_65)) ?_
        show Done _ p e below s _ _ (T0.setTop (mkF m 68 #[.val (.long xv), .second, .val (.int sel), .val (.int (sel &&& (7 : Int32))), .unset, .unset, .unset] [(.double (9094988921128908188 : UInt64)), (.double (FP.l2d xv))]))
        refine Done.step (fun _ => XS.dmulS X0.here hx rfl (v := (FP.dmul (FP.l2d xv) (9094988921128908188 : UInt64))) (hb hby at_68) rfl (Jvm.OwnFP.mul1_nn xv) rfl) ?_
        show Done _ p e below s _ _ (T0.setTop (mkF m 69 #[.val (.long xv), .second, .val (.int sel), .val (.int (sel &&& (7 : Int32))), .unset, .unset, .unset] [(.double (FP.dmul (FP.l2d xv) (9094988921128908188 : UInt64)))]))
        refine Done.step (X0.ldc2DoubleC hx hown (mvT hZ (wAt hw 0 rfl)) (g := (mkF m 69 #[.val (.long xv), .second, .val (.int sel), .val (.int (sel &&& (7 : Int32))), .unset, .unset, .unset] [(.double (FP.dmul (FP.l2d xv) (9094988921128908188 : UInt64)))])) rfl (hb hby at_69)) ?_
        show Done _ p e below s _ _ (T0.setTop (mkF m 72 #[.val (.long xv), .second, .val (.int sel), .val (.int (sel &&& (7 : Int32))), .unset, .unset, .unset] [(.double (9094988921128908188 : UInt64)), (.double (FP.dmul (FP.l2d xv) (9094988921128908188 : UInt64)))]))
        refine Done.step (fun _ => XS.dmulS X0.here hx rfl (v := (FP.dmul (FP.dmul (FP.l2d xv) (9094988921128908188 : UInt64)) (9094988921128908188 : UInt64))) (hb hby at_72) rfl (Jvm.OwnFP.mul2_nn xv) rfl) ?_
        show Done _ p e below s _ _ (T0.setTop (mkF m 73 #[.val (.long xv), .second, .val (.int sel), .val (.int (sel &&& (7 : Int32))), .unset, .unset, .unset] [(.double (FP.dmul (FP.dmul (FP.l2d xv) (9094988921128908188 : UInt64)) (9094988921128908188 : UInt64)))]))
        refine Done.step (fun _ => XS.dstore X0.here hx rfl (hb hby at_73) rfl (l' := #[.val (.long xv), .second, .val (.int sel), .val (.int (sel &&& (7 : Int32))), .val (.double (FP.dmul (FP.dmul (FP.l2d xv) (9094988921128908188 : UInt64)) (9094988921128908188 : UInt64))), .second, .unset]) rfl) ?_
        show Done _ p e below s _ _ (T0.setTop (mkF m 75 #[.val (.long xv), .second, .val (.int sel), .val (.int (sel &&& (7 : Int32))), .val (.double (FP.dmul (FP.dmul (FP.l2d xv) (9094988921128908188 : UInt64)) (9094988921128908188 : UInt64))), .second, .unset] []))
        refine Done.step (fun _ => XT.lloadN X0.here hx rfl (hb hby at_75) rfl) ?_
        show Done _ p e below s _ _ (T0.setTop (mkF m 76 #[.val (.long xv), .second, .val (.int sel), .val (.int (sel &&& (7 : Int32))), .val (.double (FP.dmul (FP.dmul (FP.l2d xv) (9094988921128908188 : UInt64)) (9094988921128908188 : UInt64))), .second, .unset] [(.long xv)]))
        refine Done.step (fun _ => XT.lconstV X0.here hx rfl (0 : Int64) (hb hby at_76) (by decide)) ?_
        show Done _ p e below s _ _ (T0.setTop (mkF m 77 #[.val (.long xv), .second, .val (.int sel), .val (.int (sel &&& (7 : Int32))), .val (.double (FP.dmul (FP.dmul (FP.l2d xv) (9094988921128908188 : UInt64)) (9094988921128908188 : UInt64))), .second, .unset] [(.long (0 : Int64)), (.long xv)]))
        refine Done.step (fun _ => XT.lcmp X0.here hx rfl (hb hby at_77) rfl) ?_
        show Done _ p e below s _ _ (T0.setTop (mkF m 78 #[.val (.long xv), .second, .val (.int sel), .val (.int (sel &&& (7 : Int32))), .val (.double (FP.dmul (FP.dmul (FP.l2d xv) (9094988921128908188 : UInt64)) (9094988921128908188 : UInt64))), .second, .unset] [(.int (XT.cmpL xv (0 : Int64)))]))
        by_cases hc9 : xv = (0 : Int64)
        · refine Done.step (fun _ => XS.ifNo X0.here hx rfl (hb hby at_78) rfl (XT.ll_ne_f hc9)) ?_
          show Done _ p e below s _ _ (T0.setTop (mkF m 81 #[.val (.long xv), .second, .val (.int sel), .val (.int (sel &&& (7 : Int32))), .val (.double (FP.dmul (FP.dmul (FP.l2d xv) (9094988921128908188 : UInt64)) (9094988921128908188 : UInt64))), .second, .unset] []))
          refine Done.step (fun _ => XT.iconstV X0.here hx rfl (1 : Int32) (hb hby at_81) (by decide)) ?_
          show Done _ p e below s _ _ (T0.setTop (mkF m 82 #[.val (.long xv), .second, .val (.int sel), .val (.int (sel &&& (7 : Int32))), .val (.double (FP.dmul (FP.dmul (FP.l2d xv) (9094988921128908188 : UInt64)) (9094988921128908188 : UInt64))), .second, .unset] [(.int (1 : Int32))]))
          refine Done.step (fun _ => XS.goto X0.here hx rfl (pc0 := 82) (pc' := 86) rfl (hb hby at_82) (by decide) (by decide)) ?_
          show Done _ p e below s _ _ (T0.setTop (mkF m 86 #[.val (.long xv), .second, .val (.int sel), .val (.int (sel &&& (7 : Int32))), .val (.double (FP.dmul (FP.dmul (FP.l2d xv) (9094988921128908188 : UInt64)) (9094988921128908188 : UInt64))), .second, .unset] [(.int (1 : Int32))]))
          refine Done.step (fun _ => XS.istore X0.here hx rfl (hb hby at_86) rfl (l' := #[.val (.long xv), .second, .val (.int sel), .val (.int (sel &&& (7 : Int32))), .val (.double (FP.dmul (FP.dmul (FP.l2d xv) (9094988921128908188 : UInt64)) (9094988921128908188 : UInt64))), .second, .val (.int (1 : Int32))]) rfl) ?_
          show Done _ p e below s _ _ (T0.setTop (mkF m 88 #[.val (.long xv), .second, .val (.int sel), .val (.int (sel &&& (7 : Int32))), .val (.double (FP.dmul (FP.dmul (FP.l2d xv) (9094988921128908188 : UInt64)) (9094988921128908188 : UInt64))), .second, .val (.int (1 : Int32))] []))
          refine Done.step (fun _ => XS.goto X0.here hx rfl (pc0 := 88) (pc' := 175) rfl (hb hby at_88) (by decide) (by decide)) ?_
          show Done _ p e below s _ _ (T0.setTop (mkF m 175 #[.val (.long xv), .second, .val (.int sel), .val (.int (sel &&& (7 : Int32))), .val (.double (FP.dmul (FP.dmul (FP.l2d xv) (9094988921128908188 : UInt64)) (9094988921128908188 : UInt64))), .second, .val (.int (1 : Int32))] []))
          exact K175 (FP.dmul (FP.dmul (FP.l2d xv) (9094988921128908188 : UInt64)) (9094988921128908188 : UInt64)) (1 : Int32) (bP_t ((Jvm.OwnFP.amt_mul xv).mpr hc9)).symm
        · refine Done.step (fun _ => XS.ifYes X0.here hx rfl (pc0 := 78) (pc' := 85) rfl (hb hby at_78) rfl (XT.ll_ne_t hc9) (by decide) (by decide)) ?_
          show Done _ p e below s _ _ (T0.setTop (mkF m 85 #[.val (.long xv), .second, .val (.int sel), .val (.int (sel &&& (7 : Int32))), .val (.double (FP.dmul (FP.dmul (FP.l2d xv) (9094988921128908188 : UInt64)) (9094988921128908188 : UInt64))), .second, .unset] []))
          refine Done.step (fun _ => XT.iconstV X0.here hx rfl (0 : Int32) (hb hby at_85) (by decide)) ?_
          show Done _ p e below s _ _ (T0.setTop (mkF m 86 #[.val (.long xv), .second, .val (.int sel), .val (.int (sel &&& (7 : Int32))), .val (.double (FP.dmul (FP.dmul (FP.l2d xv) (9094988921128908188 : UInt64)) (9094988921128908188 : UInt64))), .second, .unset] [(.int (0 : Int32))]))
          refine Done.step (fun _ => XS.istore X0.here hx rfl (hb hby at_86) rfl (l' := #[.val (.long xv), .second, .val (.int sel), .val (.int (sel &&& (7 : Int32))), .val (.double (FP.dmul (FP.dmul (FP.l2d xv) (9094988921128908188 : UInt64)) (9094988921128908188 : UInt64))), .second, .val (.int (0 : Int32))]) rfl) ?_
          show Done _ p e below s _ _ (T0.setTop (mkF m 88 #[.val (.long xv), .second, .val (.int sel), .val (.int (sel &&& (7 : Int32))), .val (.double (FP.dmul (FP.dmul (FP.l2d xv) (9094988921128908188 : UInt64)) (9094988921128908188 : UInt64))), .second, .val (.int (0 : Int32))] []))
          refine Done.step (fun _ => XS.goto X0.here hx rfl (pc0 := 88) (pc' := 175) rfl (hb hby at_88) (by decide) (by decide)) ?_
          show Done _ p e below s _ _ (T0.setTop (mkF m 175 #[.val (.long xv), .second, .val (.int sel), .val (.int (sel &&& (7 : Int32))), .val (.double (FP.dmul (FP.dmul (FP.l2d xv) (9094988921128908188 : UInt64)) (9094988921128908188 : UInt64))), .second, .val (.int (0 : Int32))] []))
          exact K175 (FP.dmul (FP.dmul (FP.l2d xv) (9094988921128908188 : UInt64)) (9094988921128908188 : UInt64)) (0 : Int32) (bP_f (fun q => hc9 ((Jvm.OwnFP.amt_mul xv).mp q))).symm
      · refine Done.step (fun _ => XS.icmpYes X0.here hx rfl (pc0 := 60) (pc' := 91) rfl (hb hby at_60) rfl (XT.ii_ne_t hc8) (by decide) (by decide)) ?_
        show Done _ p e below s _ _ (T0.setTop (mkF m 91 #[.val (.long xv), .second, .val (.int sel), .val (.int (sel &&& (7 : Int32))), .unset, .unset, .unset] []))
        refine Done.step (fun _ => XS.iloadN X0.here hx rfl (hb hby at_91) rfl) ?_
        show Done _ p e below s _ _ (T0.setTop (mkF m 92 #[.val (.long xv), .second, .val (.int sel), .val (.int (sel &&& (7 : Int32))), .unset, .unset, .unset] [(.int (sel &&& (7 : Int32)))]))
        refine Done.step (fun _ => XT.iconstV X0.here hx rfl (3 : Int32) (hb hby at_92) (by decide)) ?_
        show Done _ p e below s _ _ (T0.setTop (mkF m 93 #[.val (.long xv), .second, .val (.int sel), .val (.int (sel &&& (7 : Int32))), .unset, .unset, .unset] [(.int (3 : Int32)), (.int (sel &&& (7 : Int32)))]))
        by_cases hc10 : (sel &&& (7 : Int32)) = (3 : Int32)
        · refine Done.step (fun _ => XS.icmpNo X0.here hx rfl (hb hby at_93) rfl (XT.ii_ne_f hc10)) ?_
          show Done _ p e below s _ _ (T0.setTop (mkF m 96 #[.val (.long xv), .second, .val (.int sel), .val (.int (sel &&& (7 : Int32))), .unset, .unset, .unset] []))
          refine Done.step (fun _ => XT.lloadN X0.here hx rfl (hb hby at_96) rfl) ?_
          show Done _ p e below s _ _ (T0.setTop (mkF m 97 #[.val (.long xv), .second, .val (.int sel), .val (.int (sel &&& (7 : Int32))), .unset, .unset, .unset] [(.long xv)]))
          refine Done.step (fun _ => XS.l2dS X0.here hx rfl (v := FP.l2d xv) (hb hby at_97) rfl rfl) ?_
          show Done _ p e below s _ _ (T0.setTop (mkF m 98 #[.val (.long xv), .second, .val (.int sel), .val (.int (sel &&& (7 : Int32))), .unset, .unset, .unset] [(.double (FP.l2d xv))]))
          refine Done.step (fun _ => XS.dnegS X0.here hx rfl (v := FP.dneg (FP.l2d xv)) (hb hby at_98) rfl rfl) ?_
          show Done _ p e below s _ _ (T0.setTop (mkF m 99 #[.val (.long xv), .second, .val (.int sel), .val (.int (sel &&& (7 : Int32))), .unset, .unset, .unset] [(.double (FP.dneg (FP.l2d xv)))]))
          refine Done.step (fun _ => XS.dstore X0.here hx rfl (hb hby at_99) rfl (l' := #[.val (.long xv), .second, .val (.int sel), .val (.int (sel &&& (7 : Int32))), .val (.double (FP.dneg (FP.l2d xv))), .second, .unset]) rfl) ?_
          show Done _ p e below s _ _ (T0.setTop (mkF m 101 #[.val (.long xv), .second, .val (.int sel), .val (.int (sel &&& (7 : Int32))), .val (.double (FP.dneg (FP.l2d xv))), .second, .unset] []))
          refine Done.step (fun _ => XT.lloadN X0.here hx rfl (hb hby at_101) rfl) ?_
          show Done _ p e below s _ _ (T0.setTop (mkF m 102 #[.val (.long xv), .second, .val (.int sel), .val (.int (sel &&& (7 : Int32))), .val (.double (FP.dneg (FP.l2d xv))), .second, .unset] [(.long xv)]))
          refine Done.step (fun _ => XT.lconstV X0.here hx rfl (0 : Int64) (hb hby at_102) (by decide)) ?_
          show Done _ p e below s _ _ (T0.setTop (mkF m 103 #[.val (.long xv), .second, .val (.int sel), .val (.int (sel &&& (7 : Int32))), .val (.double (FP.dneg (FP.l2d xv))), .second, .unset] [(.long (0 : Int64)), (.long xv)]))
          refine Done.step (fun _ => XT.lcmp X0.here hx rfl (hb hby at_103) rfl) ?_
          show Done _ p e below s _ _ (T0.setTop (mkF m 104 #[.val (.long xv), .second, .val (.int sel), .val (.int (sel &&& (7 : Int32))), .val (.double (FP.dneg (FP.l2d xv))), .second, .unset] [(.int (XT.cmpL xv (0 : Int64)))]))
          by_cases hc11 : (0 : Int64) < xv
          · refine Done.step (fun _ => XS.ifYes X0.here hx rfl (pc0 := 104) (pc' := 111) rfl (hb hby at_104) rfl (XT.ll_gt_t hc11) (by decide) (by decide)) ?_
            show Done _ p e below s _ _ (T0.setTop (mkF m 111 #[.val (.long xv), .second, .val (.int sel), .val (.int (sel &&& (7 : Int32))), .val (.double (FP.dneg (FP.l2d xv))), .second, .unset] []))
            refine Done.step (fun _ => XT.iconstV X0.here hx rfl (0 : Int32) (hb hby at_111) (by decide)) ?_
            show Done _ p e below s _ _ (T0.setTop (mkF m 112 #[.val (.long xv), .second, .val (.int sel), .val (.int (sel &&& (7 : Int32))), .val (.double (FP.dneg (FP.l2d xv))), .second, .unset] [(.int (0 : Int32))]))
            refine Done.step (fun _ => XS.istore X0.here hx rfl (hb hby at_112) rfl (l' := #[.val (.long xv), .second, .val (.int sel), .val (.int (sel &&& (7 : Int32))), .val (.double (FP.dneg (FP.l2d xv))), .second, .val (.int (0 : Int32))]) rfl) ?_
            show Done _ p e below s _ _ (T0.setTop (mkF m 114 #[.val (.long xv), .second, .val (.int sel), .val (.int (sel &&& (7 : Int32))), .val (.double (FP.dneg (FP.l2d xv))), .second, .val (.int (0 : Int32))] []))
            refine Done.step (fun _ => XS.goto X0.here hx rfl (pc0 := 114) (pc' := 175) rfl (hb hby at_114) (by decide) (by decide)) ?_
            show Done _ p e below s _ _ (T0.setTop (mkF m 175 #[.val (.long xv), .second, .val (.int sel), .val (.int (sel &&& (7 : Int32))), .val (.double (FP.dneg (FP.l2d xv))), .second, .val (.int (0 : Int32))] []))
            exact K175 (FP.dneg (FP.l2d xv)) (0 : Int32) (bP_f (fun q => (Jvm.OwnFP.amt_neg xv).mp q hc11)).symm
          · refine Done.step (fun _ => XS.ifNo X0.here hx rfl (hb hby at_104) rfl (XT.ll_gt_f hc11)) ?_
            show Done _ p e below s _ _ (T0.setTop (mkF m 107 #[.val (.long xv), .second, .val (.int sel), .val (.int (sel &&& (7 : Int32))), .val (.double (FP.dneg (FP.l2d xv))), .second, .unset] []))
            refine Done.step (fun _ => XT.iconstV X0.here hx rfl (1 : Int32) (hb hby at_107) (by decide)) ?_
            show Done _ p e below s _ _ (T0.setTop (mkF m 108 #[.val (.long xv), .second, .val (.int sel), .val (.int (sel &&& (7 : Int32))), .val (.double (FP.dneg (FP.l2d xv))), .second, .unset] [(.int (1 : Int32))]))
            refine Done.step (fun _ => XS.goto X0.here hx rfl (pc0 := 108) (pc' := 112) rfl (hb hby at_108) (by decide) (by decide)) ?_
            show Done _ p e below s _ _ (T0.setTop (mkF m 112 #[.val (.long xv), .second, .val (.int sel), .val (.int (sel &&& (7 : Int32))), .val (.double (FP.dneg (FP.l2d xv))), .second, .unset] [(.int (1 : Int32))]))
            refine Done.step (fun _ => XS.istore X0.here hx rfl (hb hby at_112) rfl (l' := #[.val (.long xv), .second, .val (.int sel), .val (.int (sel &&& (7 : Int32))), .val (.double (FP.dneg (FP.l2d xv))), .second, .val (.int (1 : Int32))]) rfl) ?_
            show Done _ p e below s _ _ (T0.setTop (mkF m 114 #[.val (.long xv), .second, .val (.int sel), .val (.int (sel &&& (7 : Int32))), .val (.double (FP.dneg (FP.l2d xv))), .second, .val (.int (1 : Int32))] []))
            refine Done.step (fun _ => XS.goto X0.here hx rfl (pc0 := 114) (pc' := 175) rfl (hb hby at_114) (by decide) (by decide)) ?_
            show Done _ p e below s _ _ (T0.setTop (mkF m 175 #[.val (.long xv), .second, .val (.int sel), .val (.int (sel &&& (7 : Int32))), .val (.double (FP.dneg (FP.l2d xv))), .second, .val (.int (1 : Int32))] []))
            exact K175 (FP.dneg (FP.l2d xv)) (1 : Int32) (bP_t ((Jvm.OwnFP.amt_neg xv).mpr hc11)).symm
        · refine Done.step (fun _ => XS.icmpYes X0.here hx rfl (pc0 := 93) (pc' := 117) rfl (hb hby at_93) rfl (XT.ii_ne_t hc10) (by decide) (by decide)) ?_
          show Done _ p e below s _ _ (T0.setTop (mkF m 117 #[.val (.long xv), .second, .val (.int sel), .val (.int (sel &&& (7 : Int32))), .unset, .unset, .unset] []))
          refine Done.step (fun _ => XS.iloadN X0.here hx rfl (hb hby at_117) rfl) ?_
          show Done _ p e below s _ _ (T0.setTop (mkF m 118 #[.val (.long xv), .second, .val (.int sel), .val (.int (sel &&& (7 : Int32))), .unset, .unset, .unset] [(.int (sel &&& (7 : Int32)))]))
          refine Done.step (fun _ => XT.iconstV X0.here hx rfl (4 : Int32) (hb hby at_118) (by decide)) ?_
          show Done _ p e below s _ _ (T0.setTop (mkF m 119 #[.val (.long xv), .second, .val (.int sel), .val (.int (sel &&& (7 : Int32))), .unset, .unset, .unset] [(.int (4 : Int32)), (.int (sel &&& (7 : Int32)))]))
          by_cases hc12 : (sel &&& (7 : Int32)) = (4 : Int32)
          · refine Done.step (fun _ => XS.icmpNo X0.here hx rfl (hb hby at_119) rfl (XT.ii_ne_f hc12)) ?_
            show Done _ p e below s _ _ (T0.setTop (mkF m 122 #[.val (.long xv), .second, .val (.int sel), .val (.int (sel &&& (7 : Int32))), .unset, .unset, .unset] []))
            refine Done.step (fun _ => XT.lloadN X0.here hx rfl (hb hby at_122) rfl) ?_
            show Done _ p e below s _ _ (T0.setTop (mkF m 123 #[.val (.long xv), .second, .val (.int sel), .val (.int (sel &&& (7 : Int32))), .unset, .unset, .unset] [(.long xv)]))
            refine Done.step (fun _ => XT.lconstV X0.here hx rfl (0 : Int64) (hb hby at_123) (by decide)) ?_
            show Done _ p e below s _ _ (T0.setTop (mkF m 124 #[.val (.long xv), .second, .val (.int sel), .val (.int (sel &&& (7 : Int32))), .unset, .unset, .unset] [(.long (0 : Int64)), (.long xv)]))
            refine Done.step (fun _ => XT.lcmp X0.here hx rfl (hb hby at_124) rfl) ?_
            show Done _ p e below s _ _ (T0.setTop (mkF m 125 #[.val (.long xv), .second, .val (.int sel), .val (.int (sel &&& (7 : Int32))), .unset, .unset, .unset] [(.int (XT.cmpL xv (0 : Int64)))]))
            by_cases hc13 : xv < (0 : Int64)
            · refine Done.step (fun _ => XS.ifYes X0.here hx rfl (pc0 := 125) (pc' := 134) rfl (hb hby at_125) rfl (XT.ll_lt_t hc13) (by decide) (by decide)) ?_
              show Done _ p e below s _ _ (T0.setTop (mkF m 134 #[.val (.long xv), .second, .val (.int sel), .val (.int (sel &&& (7 : Int32))), .unset, .unset, .unset] []))
              refine Done.step (X0.ldc2DoubleC hx hown (mvT hZ (wAt hw 6 rfl)) (g := (mkF m 134 #[.val (.long xv), .second, .val (.int sel), .val (.int (sel &&& (7 : Int32))), .unset, .unset, .unset] [])) rfl (hb hby at_134)) ?_
              show Done _ p e below s _ _ (T0.setTop (mkF m 137 #[.val (.long xv), .second, .val (.int sel), .val (.int (sel &&& (7 : Int32))), .unset, .unset, .unset] [(.double (18442240474082181119 : UInt64))]))
              refine Done.step (fun _ => XS.dstore X0.here hx rfl (hb hby at_137) rfl (l' := #[.val (.long xv), .second, .val (.int sel), .val (.int (sel &&& (7 : Int32))), .val (.double (18442240474082181119 : UInt64)), .second, .unset]) rfl) ?_
              show Done _ p e below s _ _ (T0.setTop (mkF m 139 #[.val (.long xv), .second, .val (.int sel), .val (.int (sel &&& (7 : Int32))), .val (.double (18442240474082181119 : UInt64)), .second, .unset] []))
              refine Done.step (fun _ => XT.lloadN X0.here hx rfl (hb hby at_139) rfl) ?_
              show Done _ p e below s _ _ (T0.setTop (mkF m 140 #[.val (.long xv), .second, .val (.int sel), .val (.int (sel &&& (7 : Int32))), .val (.double (18442240474082181119 : UInt64)), .second, .unset] [(.long xv)]))
              refine Done.step (fun _ => XT.lconstV X0.here hx rfl (0 : Int64) (hb hby at_140) (by decide)) ?_
              show Done _ p e below s _ _ (T0.setTop (mkF m 141 #[.val (.long xv), .second, .val (.int sel), .val (.int (sel &&& (7 : Int32))), .val (.double (18442240474082181119 : UInt64)), .second, .unset] [(.long (0 : Int64)), (.long xv)]))
              refine Done.step (fun _ => XT.lcmp X0.here hx rfl (hb hby at_141) rfl) ?_
              show Done _ p e below s _ _ (T0.setTop (mkF m 142 #[.val (.long xv), .second, .val (.int sel), .val (.int (sel &&& (7 : Int32))), .val (.double (18442240474082181119 : UInt64)), .second, .unset] [(.int (XT.cmpL xv (0 : Int64)))]))
              refine Done.step (fun _ => XS.ifYes X0.here hx rfl (pc0 := 142) (pc' := 149) rfl (hb hby at_142) rfl (XT.ll_lt_t hc13) (by decide) (by decide)) ?_
              show Done _ p e below s _ _ (T0.setTop (mkF m 149 #[.val (.long xv), .second, .val (.int sel), .val (.int (sel &&& (7 : Int32))), .val (.double (18442240474082181119 : UInt64)), .second, .unset] []))
              refine Done.step (fun _ => XT.iconstV X0.here hx rfl (0 : Int32) (hb hby at_149) (by decide)) ?_
              show Done _ p e below s _ _ (T0.setTop (mkF m 150 #[.val (.long xv), .second, .val (.int sel), .val (.int (sel &&& (7 : Int32))), .val (.double (18442240474082181119 : UInt64)), .second, .unset] [(.int (0 : Int32))]))
              refine Done.step (fun _ => XS.istore X0.here hx rfl (hb hby at_150) rfl (l' := #[.val (.long xv), .second, .val (.int sel), .val (.int (sel &&& (7 : Int32))), .val (.double (18442240474082181119 : UInt64)), .second, .val (.int (0 : Int32))]) rfl) ?_
              show Done _ p e below s _ _ (T0.setTop (mkF m 152 #[.val (.long xv), .second, .val (.int sel), .val (.int (sel &&& (7 : Int32))), .val (.double (18442240474082181119 : UInt64)), .second, .val (.int (0 : Int32))] []))
              refine Done.step (fun _ => XS.goto X0.here hx rfl (pc0 := 152) (pc' := 175) rfl (hb hby at_152) (by decide) (by decide)) ?_
              show Done _ p e below s _ _ (T0.setTop (mkF m 175 #[.val (.long xv), .second, .val (.int sel), .val (.int (sel &&& (7 : Int32))), .val (.double (18442240474082181119 : UInt64)), .second, .val (.int (0 : Int32))] []))
              exact K175 (18442240474082181119 : UInt64) (0 : Int32) (bP_f Jvm.OwnFP.amt_min).symm
            · refine Done.step (fun _ => XS.ifNo X0.here hx rfl (hb hby at_125) rfl (XT.ll_lt_f hc13)) ?_
              show Done _ p e below s _ _ (T0.setTop (mkF m 128 #[.val (.long xv), .second, .val (.int sel), .val (.int (sel &&& (7 : Int32))), .unset, .unset, .unset] []))
              refine Done.step (X0.ldc2DoubleC hx hown (mvT hZ (wAt hw 8 rfl)) (g := (mkF m 128 #[.val (.long xv), .second, .val (.int sel), .val (.int (sel &&& (7 : Int32))), .unset, .unset, .unset] [])) rfl (hb hby at_128)) ?_
              show Done _ p e below s _ _ (T0.setTop (mkF m 131 #[.val (.long xv), .second, .val (.int sel), .val (.int (sel &&& (7 : Int32))), .unset, .unset, .unset] [(.double (9218868437227405311 : UInt64))]))
              refine Done.step (fun _ => XS.goto X0.here hx rfl (pc0 := 131) (pc' := 137) rfl (hb hby at_131) (by decide) (by decide)) ?_
              show Done _ p e below s _ _ (T0.setTop (mkF m 137 #[.val (.long xv), .second, .val (.int sel), .val (.int (sel &&& (7 : Int32))), .unset, .unset, .unset] [(.double (9218868437227405311 : UInt64))]))
              refine Done.step (fun _ => XS.dstore X0.here hx rfl (hb hby at_137) rfl (l' := #[.val (.long xv), .second, .val (.int sel), .val (.int (sel &&& (7 : Int32))), .val (.double (9218868437227405311 : UInt64)), .second, .unset]) rfl) ?_
              show Done _ p e below s _ _ (T0.setTop (mkF m 139 #[.val (.long xv), .second, .val (.int sel), .val (.int (sel &&& (7 : Int32))), .val (.double (9218868437227405311 : UInt64)), .second, .unset] []))
              refine Done.step (fun _ => XT.lloadN X0.here hx rfl (hb hby at_139) rfl) ?_
              show Done _ p e below s _ _ (T0.setTop (mkF m 140 #[.val (.long xv), .second, .val (.int sel), .val (.int (sel &&& (7 : Int32))), .val (.double (9218868437227405311 : UInt64)), .second, .unset] [(.long xv)]))
              refine Done.step (fun _ => XT.lconstV X0.here hx rfl (0 : Int64) (hb hby at_140) (by decide)) ?_
              show Done _ p e below s _ _ (T0.setTop (mkF m 141 #[.val (.long xv), .second, .val (.int sel), .val (.int (sel &&& (7 : Int32))), .val (.double (9218868437227405311 : UInt64)), .second, .unset] [(.long (0 : Int64)), (.long xv)]))
              refine Done.step (fun _ => XT.lcmp X0.here hx rfl (hb hby at_141) rfl) ?_
              show Done _ p e below s _ _ (T0.setTop (mkF m 142 #[.val (.long xv), .second, .val (.int sel), .val (.int (sel &&& (7 : Int32))), .val (.double (9218868437227405311 : UInt64)), .second, .unset] [(.int (XT.cmpL xv (0 : Int64)))]))
              refine Done.step (fun _ => XS.ifNo X0.here hx rfl (hb hby at_142) rfl (XT.ll_lt_f hc13)) ?_
              show Done _ p e below s _ _ (T0.setTop (mkF m 145 #[.val (.long xv), .second, .val (.int sel), .val (.int (sel &&& (7 : Int32))), .val (.double (9218868437227405311 : UInt64)), .second, .unset] []))
              refine Done.step (fun _ => XT.iconstV X0.here hx rfl (1 : Int32) (hb hby at_145) (by decide)) ?_
              show Done _ p e below s _ _ (T0.setTop (mkF m 146 #[.val (.long xv), .second, .val (.int sel), .val (.int (sel &&& (7 : Int32))), .val (.double (9218868437227405311 : UInt64)), .second, .unset] [(.int (1 : Int32))]))
              refine Done.step (fun _ => XS.goto X0.here hx rfl (pc0 := 146) (pc' := 150) rfl (hb hby at_146) (by decide) (by decide)) ?_
              show Done _ p e below s _ _ (T0.setTop (mkF m 150 #[.val (.long xv), .second, .val (.int sel), .val (.int (sel &&& (7 : Int32))), .val (.double (9218868437227405311 : UInt64)), .second, .unset] [(.int (1 : Int32))]))
              refine Done.step (fun _ => XS.istore X0.here hx rfl (hb hby at_150) rfl (l' := #[.val (.long xv), .second, .val (.int sel), .val (.int (sel &&& (7 : Int32))), .val (.double (9218868437227405311 : UInt64)), .second, .val (.int (1 : Int32))]) rfl) ?_
              show Done _ p e below s _ _ (T0.setTop (mkF m 152 #[.val (.long xv), .second, .val (.int sel), .val (.int (sel &&& (7 : Int32))), .val (.double (9218868437227405311 : UInt64)), .second, .val (.int (1 : Int32))] []))
              refine Done.step (fun _ => XS.goto X0.here hx rfl (pc0 := 152) (pc' := 175) rfl (hb hby at_152) (by decide) (by decide)) ?_
              show Done _ p e below s _ _ (T0.setTop (mkF m 175 #[.val (.long xv), .second, .val (.int sel), .val (.int (sel &&& (7 : Int32))), .val (.double (9218868437227405311 : UInt64)), .second, .val (.int (1 : Int32))] []))
              exact K175 (9218868437227405311 : UInt64) (1 : Int32) (bP_t Jvm.OwnFP.amt_max).symm
          · refine Done.step (fun _ => XS.icmpYes X0.here hx rfl (pc0 := 119) (pc' := 155) rfl (hb hby at_119) rfl (XT.ii_ne_t hc12) (by decide) (by decide)) ?_
            show Done _ p e below s _ _ (T0.setTop (mkF m 155 #[.val (.long xv), .second, .val (.int sel), .val (.int (sel &&& (7 : Int32))), .unset, .unset, .unset] []))
            refine Done.step (fun _ => XT.lloadN X0.here hx rfl (hb hby at_155) rfl) ?_
            show Done _ p e below s _ _ (T0.setTop (mkF m 156 #[.val (.long xv), .second, .val (.int sel), .val (.int (sel &&& (7 : Int32))), .unset, .unset, .unset] [(.long xv)]))
            refine Done.step (fun _ => XT.lconstV X0.here hx rfl (1 : Int64) (hb hby at_156) (by decide)) ?_
            show Done _ p e below s _ _ (T0.setTop (mkF m 157 #[.val (.long xv), .second, .val (.int sel), .val (.int (sel &&& (7 : Int32))), .unset, .unset, .unset] [(.long (1 : Int64)), (.long xv)]))
            refine Done.step (fun _ => XT.land X0.here hx rfl (hb hby at_157) rfl) ?_
            show Done _ p e below s _ _ (T0.setTop (mkF m 158 #[.val (.long xv), .second, .val (.int sel), .val (.int (sel &&& (7 : Int32))), .unset, .unset, .unset] [(.long (xv &&& (1 : Int64)))]))
            refine Done.step (fun _ => XT.lconstV X0.here hx rfl (0 : Int64) (hb hby at_158) (by decide)) ?_
            show Done _ p e below s _ _ (T0.setTop (mkF m 159 #[.val (.long xv), .second, .val (.int sel), .val (.int (sel &&& (7 : Int32))), .unset, .unset, .unset] [(.long (0 : Int64)), (.long (xv &&& (1 : Int64)))]))
            refine Done.step (fun _ => XT.lcmp X0.here hx rfl (hb hby at_159) rfl) ?_
            show Done _ p e below s _ _ (T0.setTop (mkF m 160 #[.val (.long xv), .second, .val (.int sel), .val (.int (sel &&& (7 : Int32))), .unset, .unset, .unset] [(.int (XT.cmpL (xv &&& (1 : Int64)) (0 : Int64)))]))
            by_cases hc14 : (xv &&& (1 : Int64)) = (0 : Int64)
            · refine Done.step (fun _ => XS.ifYes X0.here hx rfl (pc0 := 160) (pc' := 169) rfl (hb hby at_160) rfl (XT.ll_eq_t hc14) (by decide) (by decide)) ?_
              show Done _ p e below s _ _ (T0.setTop (mkF m 169 #[.val (.long xv), .second, .val (.int sel), .val (.int (sel &&& (7 : Int32))), .unset, .unset, .unset] []))
              refine Done.step (fun _ => XS.dconst0 X0.here hx rfl (v := (FP.l2d (0 : Int64))) (hb hby at_169) (by decide +kernel)) ?_
              show Done _ p e below s _ _ (T0.setTop (mkF m 170 #[.val (.long xv), .second, .val (.int sel), .val (.int (sel &&& (7 : Int32))), .unset, .unset, .unset] [(.double (FP.l2d (0 : Int64)))]))
              refine Done.step (fun _ => XS.dstore X0.here hx rfl (hb hby at_170) rfl (l' := #[.val (.long xv), .second, .val (.int sel), .val (.int (sel &&& (7 : Int32))), .val (.double (FP.l2d (0 : Int64))), .second, .unset]) rfl) ?_
              show Done _ p e below s _ _ (T0.setTop (mkF m 172 #[.val (.long xv), .second, .val (.int sel), .val (.int (sel &&& (7 : Int32))), .val (.double (FP.l2d (0 : Int64))), .second, .unset] []))
              refine Done.step (fun _ => XT.iconstV X0.here hx rfl (1 : Int32) (hb hby at_172) (by decide)) ?_
              show Done _ p e below s _ _ (T0.setTop (mkF m 173 #[.val (.long xv), .second, .val (.int sel), .val (.int (sel &&& (7 : Int32))), .val (.double (FP.l2d (0 : Int64))), .second, .unset] [(.int (1 : Int32))]))
              refine Done.step (fun _ => XS.istore X0.here hx rfl (hb hby at_173) rfl (l' := #[.val (.long xv), .second, .val (.int sel), .val (.int (sel &&& (7 : Int32))), .val (.double (FP.l2d (0 : Int64))), .second, .val (.int (1 : Int32))]) rfl) ?_
              show Done _ p e below s _ _ (T0.setTop (mkF m 175 #[.val (.long xv), .second, .val (.int sel), .val (.int (sel &&& (7 : Int32))), .val (.double (FP.l2d (0 : Int64))), .second, .val (.int (1 : Int32))] []))
              exact K175 (FP.l2d (0 : Int64)) (1 : Int32) (bP_t Jvm.OwnFP.amt_z).symm
            · refine Done.step (fun _ => XS.ifNo X0.here hx rfl (hb hby at_160) rfl (XT.ll_eq_f hc14)) ?_
              show Done _ p e below s _ _ (T0.setTop (mkF m 163 #[.val (.long xv), .second, .val (.int sel), .val (.int (sel &&& (7 : Int32))), .unset, .unset, .unset] []))
              refine Done.step (X0.ldc2DoubleC hx hown (mvT hZ (wAt hw 7 rfl)) (g := (mkF m 163 #[.val (.long xv), .second, .val (.int sel), .val (.int (sel &&& (7 : Int32))), .unset, .unset, .unset] [])) rfl (hb hby at_163)) ?_
              show Done _ p e below s _ _ (T0.setTop (mkF m 166 #[.val (.long xv), .second, .val (.int sel), .val (.int (sel &&& (7 : Int32))), .unset, .unset, .unset] [(.double (9223372036854775808 : UInt64))]))
              refine Done.step (fun _ => XS.goto X0.here hx rfl (pc0 := 166) (pc' := 170) rfl (hb hby at_166) (by decide) (by decide)) ?_
              show Done _ p e below s _ _ (T0.setTop (mkF m 170 #[.val (.long xv), .second, .val (.int sel), .val (.int (sel &&& (7 : Int32))), .unset, .unset, .unset] [(.double (9223372036854775808 : UInt64))]))
              refine Done.step (fun _ => XS.dstore X0.here hx rfl (hb hby at_170) rfl (l' := #[.val (.long xv), .second, .val (.int sel), .val (.int (sel &&& (7 : Int32))), .val (.double (9223372036854775808 : UInt64)), .second, .unset]) rfl) ?_
              show Done _ p e below s _ _ (T0.setTop (mkF m 172 #[.val (.long xv), .second, .val (.int sel), .val (.int (sel &&& (7 : Int32))), .val (.double (9223372036854775808 : UInt64)), .second, .unset] []))
              refine Done.step (fun _ => XT.iconstV X0.here hx rfl (1 : Int32) (hb hby at_172) (by decide)) ?_
              show Done _ p e below s _ _ (T0.setTop (mkF m 173 #[.val (.long xv), .second, .val (.int sel), .val (.int (sel &&& (7 : Int32))), .val (.double (9223372036854775808 : UInt64)), .second, .unset] [(.int (1 : Int32))]))
              refine Done.step (fun _ => XS.istore X0.here hx rfl (hb hby at_173) rfl (l' := #[.val (.long xv), .second, .val (.int sel), .val (.int (sel &&& (7 : Int32))), .val (.double (9223372036854775808 : UInt64)), .second, .val (.int (1 : Int32))]) rfl) ?_
              show Done _ p e below s _ _ (T0.setTop (mkF m 175 #[.val (.long xv), .second, .val (.int sel), .val (.int (sel &&& (7 : Int32))), .val (.double (9223372036854775808 : UInt64)), .second, .val (.int (1 : Int32))] []))
              exact K175 (9223372036854775808 : UInt64) (1 : Int32) (bP_t Jvm.OwnFP.amt_nz).symm
set_option maxRecDepth 65536 in
set_option maxHeartbeats 40000000 in
theorem comes_1 {Post : Tables → Env → Array Value → State → Outcome → State → Prop} (hpost : ∀ tb e args s v u, (limb_1_1.after args s (.returned v) u = true ∧ limb_1_2.after args s (.returned v) u = true ∧ True) → FrameEnd s (.returned v) u (Jvm.fieldLocs frame_1_writes args s ++ Jvm.arrayLocs frame_1_arrays args s ++ Jvm.staticLocs frame_1_statics s) 0 0 → Post tb e args s (.returned v) u) :
    ArmFor flags0 classFile x code maxLocals ret World_1 tables_1 room_1 Calls_1 rest_1 Pre_1 Post := by
  intro l hfl _ _ p e ha hc hk s m args below hf hA hF happ hP
  obtain ⟨hcalls, hrest, hpre⟩ := hP
  obtain ⟨-, -, -, hnamed, -, -, -, hat⟩ := (Spec.applies_iff hf).mp happ
  obtain ⟨hg, hn⟩ := and_e (Cond.before_iff.mp (show (Jvm.Cond.and given_1 narrow_1).before args s = true from hpre))
  obtain ⟨w0, w1, rfl⟩ : ∃ w0 w1 : Value, args = #[w0, w1] := by
    have hs : args.size = 2 := by simpa [Cond.value] using (and_e hg).1
    obtain ⟨L⟩ := args
    match L, hs with
    | [w0, w1], _ => exact ⟨w0, w1, rfl⟩
  have hw := fun d (hd : d ∈ tables_1) => atoms_spec (ws := Jvm.Cond.code x code maxLocals ret :: tables_1) hat d (List.mem_cons_of_mem _ hd)
  have hfit : Fit s := fun {y c} hc i hi => by
    obtain ⟨ha, rfl⟩ := Array.getElem?_eq_some_iff.mp hc
    have q := List.all_eq_true.mp ((Array.all_eq_true_iff_forall_mem.mp hF) _ (Array.getElem_mem ha)) i (List.mem_range.mpr hi)
    simpa [Array.getElem?_eq_getElem hi] using q
  obtain ⟨_, hg0⟩ := and_e hg
  obtain ⟨ga0, hg1⟩ := and_e hg0
  obtain ⟨i0, ei0⟩ := isL_v ga0
  obtain rfl : w0 = (.long i0) := Option.some.inj ei0
  obtain ⟨i1, ei1⟩ := is_v hg1
  obtain rfl : w1 = (.int i1) := Option.some.inj ei1
  obtain ⟨n, o, h1, h2, h3, _, L, rfl, ⟨rfl, N⟩, hq⟩ := rm0 l s _ hw tables_1 i0 i1 s.heap s.heap.size (Nat.le_refl _)  p e ha hc hk s m _ below hf ((Spec.applies_iff_loose hf).mp happ).1 ⟨rfl, State.Warmed39.refl s, rfl, trivial⟩ trivial
  refine ⟨n, _, h1, h2, h3, hpost _ _ _ _ _ _ ⟨Cond.after_iff.mpr rfl, Cond.after_iff.mpr (eq_i res_at (Term.int_eval (1)) rfl), trivial⟩ ⟨hq.1, hq.2.1, (hq.2.2.sift fun y hy => Or.inr (N y hy)).mono (by decide) (by decide)⟩⟩
theorem main_1_1 : Claimed_1_1 := comes_1 fun _ _ _ _ _ _ h hF => ⟨h.1, hF⟩
theorem main_1_2 : Claimed_1_2 := comes_1 fun _ _ _ _ _ _ h hF => ⟨h.2.1, hF⟩
end Jvm.Pilot.@@N@@
namespace Jvm.Pilot.@@N@@
open Jvm Jvm.ClassFile Sem Op Lib Jvm.Free Jvm.Stand Jvm.Pilot.@@N@@.Jvm.D
/-! MADE BY PROGRAM (witnessworld.py) out of the Statement's table words and the real class files: 9 classes; the members and pool entries that the words name. The judged class is class 1, her method 1. -/
namespace start1
open Jvm.ClassFile
def u (s : String) : CpInfo := .utf8 (stringToUtf16 s)
/-- a pool by its gaps: so many unusable entries, then the entry; so many at the end -/
def gap : Nat → List CpInfo → List CpInfo
  | 0, r => r
  | n + 1, r => .unusable :: gap n r
def poolList (es : List (Nat × CpInfo)) (last : Nat) : List CpInfo := es.foldr (fun e r => gap e.1 (e.2 :: r)) (gap last [])
def pool (es : List (Nat × CpInfo)) (last : Nat) : Array CpInfo := ⟨poolList es last⟩
def fileOf (pool : Array CpInfo) (this : Nat) (attrs : Array Attribute := #[]) (ms : Array MethodInfo := #[]) (fl : Nat := 33) (sup : Nat := 0) (ifs : Array Nat := #[]) (fds : Array FieldInfo := #[]) : ClassFile where
  minorVersion := 0
  majorVersion := 65
  constantPool := pool
  accessFlags := fl
  thisClass := this
  superClass := sup
  interfaces := ifs
  fields := fds
  methods := ms
  attributes := attrs
def plain (name : String) (sup : Option ClassId) : Class where
  name := name
  kind := .ordinary
  loader := none
  accessFlags := 33
  super := sup
  interfaces := #[]
  cf := none
  fields := #[]
  methods := #[]
  instanceTypes := #[]
  staticTypes := #[]
  resolved := #[]
  callSites := []
  init := .initialized
  statics := none
  mirror := none

def pool0 : Array CpInfo := pool [(5, u "<init>"), (0, u "()V"), (1, .class_ 10), (1, u "java/lang/Object")] 113

def k0m0 : Method := { name := "<init>", desc := "()V", sig := { parameters := [], returnType := none }, accessFlags := 1, code := none }
/-- java/lang/Object -/
def k0 : Class := { plain "java/lang/Object" none with
  accessFlags := 33
  interfaces := #[]
  cf := some (fileOf pool0 8 #[] #[{ accessFlags := 1, nameIndex := 5, descriptorIndex := 6, attributes := #[] }] 33 0 #[] #[])
  fields := #[]
  methods := #[k0m0]
  instanceTypes := #[]
  staticTypes := #[]
  resolved := Array.replicate 124 none
  statics := none }

def pool1 : Array CpInfo := pool [(2, .class_ 4), (1, u "java/lang/Object"), (0, u "<init>"), (0, u "()V"), (0, .double 4652218415073722368), (1, .double 9094988921128908188), (1, .double 9218868437227405311), (1, .double 18442240474082181119), (1, .double 9223372036854775808), (1, .methodref 18 19), (0, .class_ 20), (0, .nameAndType 21 22), (0, u "com/example/ilmarinen/ilmarinen/models/Checks"), (0, u "isAmount"), (0, u "(D)Z"), (0, .class_ 24), (0, u "com/example/ilmarinen/ilmarinen/models/ChecksIsAmountPinLaw"), (2, u "law"), (0, u "(JI)Z")] 3

def k1m0 : Method := { name := "<init>", desc := "()V", sig := { parameters := [], returnType := none }, accessFlags := 2, code := none }
def k1c1 : Code := { maxStack := 4, maxLocals := 7, code := code, exceptionTable := #[], attributes := #[] }
def k1m1 : Method := { name := "law", desc := "(JI)Z", sig := { parameters := [.long, .int], returnType := some .boolean }, accessFlags := 9, code := some k1c1 }
/-- com/example/ilmarinen/ilmarinen/models/ChecksIsAmountPinLaw -/
def k1 : Class := { plain "com/example/ilmarinen/ilmarinen/models/ChecksIsAmountPinLaw" (some 0) with
  accessFlags := 49
  interfaces := #[]
  cf := some (fileOf pool1 23 #[] #[{ accessFlags := 2, nameIndex := 5, descriptorIndex := 6, attributes := #[] }, { accessFlags := 9, nameIndex := 27, descriptorIndex := 28, attributes := #[] }] 49 2 #[] #[])
  fields := #[]
  methods := #[k1m0, k1m1]
  instanceTypes := #[]
  staticTypes := #[]
  resolved := Array.replicate 32 none
  statics := none }

def pool2 : Array CpInfo := pool [(2, .class_ 4), (1, u "java/lang/Object"), (0, u "<init>"), (0, u "()V"), (1, .class_ 10), (1, u "com/example/ilmarinen/ilmarinen/models/Checks"), (29, .double 9218868437227405312), (22, u "ROUNDING"), (0, u "D"), (5, u "isAmount"), (0, u "(D)Z")] 27

def k2m0 : Method := { name := "<init>", desc := "()V", sig := { parameters := [], returnType := none }, accessFlags := 2, code := none }
def k2c1 : Code := { maxStack := 4, maxLocals := 2, code := prog_8_method_5_code, exceptionTable := #[], attributes := #[] }
def k2m1 : Method := { name := "isAmount", desc := "(D)Z", sig := { parameters := [.double], returnType := some .boolean }, accessFlags := 9, code := some k2c1 }
/-- com/example/ilmarinen/ilmarinen/models/Checks -/
def k2 : Class := { plain "com/example/ilmarinen/ilmarinen/models/Checks" (some 0) with
  accessFlags := 49
  interfaces := #[]
  cf := some (fileOf pool2 8 #[] #[{ accessFlags := 2, nameIndex := 5, descriptorIndex := 6, attributes := #[] }, { accessFlags := 9, nameIndex := 70, descriptorIndex := 71, attributes := #[] }] 49 2 #[] #[{ accessFlags := 26, nameIndex := 63, descriptorIndex := 64, attributes := #[] }])
  fields := #[{ name := "ROUNDING", type := .double, accessFlags := 26, slot := 0, constantValue := 0 }]
  methods := #[k2m0, k2m1]
  instanceTypes := #[]
  staticTypes := #[.double]
  resolved := Array.replicate 99 none
  statics := none }

def pool3 : Array CpInfo := pool [(1, u "java/lang/Cloneable"), (0, .class_ 1), (0, u "java/lang/Object"), (0, .class_ 3)] 3

/-- java/lang/Cloneable -/
def k3 : Class := { plain "java/lang/Cloneable" (some 0) with
  accessFlags := 1537
  interfaces := #[]
  cf := some (fileOf pool3 2 #[] #[] 1537 4 #[] #[])
  fields := #[]
  methods := #[]
  instanceTypes := #[]
  staticTypes := #[]
  resolved := Array.replicate 8 none
  statics := none }

def pool4 : Array CpInfo := pool [(1, u "java/io/Serializable"), (0, .class_ 1), (0, u "java/lang/Object"), (0, .class_ 3)] 3

/-- java/io/Serializable -/
def k4 : Class := { plain "java/io/Serializable" (some 0) with
  accessFlags := 1537
  interfaces := #[]
  cf := some (fileOf pool4 2 #[] #[] 1537 4 #[] #[])
  fields := #[]
  methods := #[]
  instanceTypes := #[]
  staticTypes := #[]
  resolved := Array.replicate 8 none
  statics := none }

/-- the primitive byte -/
def k5 : Class := { plain "byte" none with kind := .primitive 'B', accessFlags := 0x411 }
/-- [B -/
def k6 : Class := { plain "[B" (some 0) with kind := .array 5 .byte, interfaces := #[3, 4], accessFlags := 1041 }

/-- the primitive int -/
def k7 : Class := { plain "int" none with kind := .primitive 'I', accessFlags := 0x411 }
/-- [I -/
def k8 : Class := { plain "[I" (some 0) with kind := .array 7 .int, interfaces := #[3, 4], accessFlags := 1041 }

def heap : Heap := #[]
def classes : Array Class := #[k0, k1, k2, k3, k4, k5, k6, k7, k8]
def interned : List (Array UInt16 × Addr) := []
def slotsUsed : Nat := 0
def theMethod : MethodId := ⟨1, 1⟩
def args0 : Array Value := #[.long 5, .int 6]
def aboutOver (below : List Frame) : State where
  vm := { classes := classes, interned := interned.toArray }
  heap := heap
  slotsUsed := slotsUsed
  threads := #[{ frames := .invoking theMethod args0 :: below }]
def below0 : List Frame := [.native { method := ⟨0, 0⟩, args := #[] }]
def about1 : State := aboutOver below0
def p0 : Program := .bare "" "" ""
def e0 : Env := launch0.env 0 0 0
theorem w_frames : about1.frames = Frame.invoking theMethod args0 :: below0 := rfl
set_option maxRecDepth 65536 in
theorem w_args : argsFit about1.vm theMethod args0 = true := by decide +kernel
set_option maxRecDepth 65536 in
theorem w_heap : heapFits about1 = true := by decide +kernel
set_option maxRecDepth 65536 in
theorem w_runnable : about1.curStatus? = some .runnable := by decide +kernel
set_option maxRecDepth 65536 in
theorem w_alone : about1.alone = true := by decide +kernel
set_option maxRecDepth 65536 in
theorem w_named : about1.methodNamed? x = some theMethod := by decide +kernel
set_option maxRecDepth 65536 in
theorem w_hears : about1.hears theMethod below0 = true := by decide +kernel
set_option maxRecDepth 65536 in
theorem w_ripe : about1.ripe theMethod args0 below0 = true := by decide +kernel
theorem w_running : about1.status = .running := rfl
set_option maxRecDepth 65536 in
theorem w_room : about1.hasRoom e0.platform room_1 = true :=
  launch0.hasRoom_least _ room_1 (by decide +kernel) (by decide +kernel) (by decide +kernel) (by decide +kernel) (by decide +kernel) (by decide +kernel)
theorem allAtoms_all (ts : List Jvm.Cond) (a : Array Jvm.Value) (st : Jvm.State) : (allAtoms ts).before a st = ts.all (fun c => c.before a st) := by
  induction ts with
  | nil => rfl
  | cons c t ih =>
    show (Jvm.Cond.and c (allAtoms t)).before a st = _
    rw [Jvm.Cond.before_and, ih, List.all_cons]
def words1 : List Jvm.Cond := Jvm.Cond.code x code maxLocals ret :: tables_1
/-- a 'code' word, met by the world's own term for the bytes: nothing is compared byte by byte -/
theorem code_word {y : MethodName} {bytes : ByteArray} {mx : Nat} {rt : Option FieldType} {a : Array Value} {s : State} {m : MethodId} {meth : Method} {c : Code} (h1 : s.methodNamed? y = some m) (h2 : s.vm.method? m = some meth) (h3 : meth.code = some c) (h4 : c.code = bytes)
    (h5 : (c.maxLocals == mx && c.exceptionTable.isEmpty && decide (c.maxStack ≤ mostOperands) && decide (meth.sig.returnType = rt) && !meth.locks && decide (parseMethodDescriptor y.desc = some meth.sig)) = true) : (Jvm.Cond.code y bytes mx rt).before a s = true := by
  simp only [Bool.and_eq_true, beq_iff_eq, Bool.not_eq_true', decide_eq_true_eq] at h5
  obtain ⟨⟨⟨⟨⟨g1, g2⟩, g3⟩, g4⟩, g5⟩, g6⟩ := h5
  simp [Cond.before, Cond.holds, Cond.value, h1, h2, h3, h4, g1, g2, g3, g4, g5, g6]
def isCode : Jvm.Cond → Bool
  | .code _ _ _ _ => true
  | _ => false
theorem all_split {L : List Jvm.Cond} {P : Jvm.Cond → Bool} (h1 : L.all (fun c => isCode c || P c) = true) (h2 : ∀ c ∈ L.filter isCode, P c = true) : L.all P = true := by
  refine List.all_eq_true.mpr fun c hc => ?_
  have h := List.all_eq_true.mp h1 c hc
  rcases Bool.eq_false_or_eq_true (isCode c) with hi | hi
  · exact h2 c (List.mem_filter.mpr ⟨hc, hi⟩)
  · simpa [hi] using h
set_option maxRecDepth 65536 in
theorem w_c0 : (Jvm.Cond.code x code maxLocals ret).before args0 about1 = true := code_word (m := ⟨1, 1⟩) (meth := k1m1) (c := k1c1) (by decide +kernel) rfl rfl rfl (by decide +kernel)
set_option maxRecDepth 65536 in
theorem w_c1 : (Jvm.Cond.code ({ cls := "com/example/ilmarinen/ilmarinen/models/Checks", name := "isAmount", desc := "(D)Z" } : Jvm.MethodName) prog_8_method_5_code (2 : Nat) (Option.some Jvm.ClassFile.FieldType.boolean)).before args0 about1 = true := code_word (m := ⟨2, 1⟩) (meth := k2m1) (c := k2c1) (by decide +kernel) rfl rfl rfl (by decide +kernel)
def codes1 : List Jvm.Cond := [Jvm.Cond.code x code maxLocals ret, Jvm.Cond.code ({ cls := "com/example/ilmarinen/ilmarinen/models/Checks", name := "isAmount", desc := "(D)Z" } : Jvm.MethodName) prog_8_method_5_code (2 : Nat) (Option.some Jvm.ClassFile.FieldType.boolean)]
set_option maxRecDepth 65536 in
theorem codes_eq : words1.filter isCode = codes1 := rfl
theorem w_codes : ∀ c ∈ words1.filter isCode, c.before args0 about1 = true := by
  rw [codes_eq]
  intro c hc
  simp only [codes1, List.mem_cons, List.not_mem_nil, or_false] at hc
  rcases hc with rfl | rfl
  · exact w_c0
  · exact w_c1
set_option maxRecDepth 65536 in
theorem w_t1 : words1.all (fun c => isCode c || c.before args0 about1) = true := by decide +kernel
theorem w_tables : (allAtoms (Jvm.Cond.code x code maxLocals ret :: tables_1)).before args0 about1 = true := by
  rw [allAtoms_all]
  show words1.all (fun c => c.before args0 about1) = true
  refine all_split ?_ w_codes
  rw [w_t1]
set_option maxRecDepth 65536 in
theorem w_case : (Jvm.Cond.and given_1 narrow_1).before args0 about1 = true := by decide +kernel
theorem w_applies : (headSpec (Jvm.Cond.code x code maxLocals ret :: tables_1) room_1).applies x e0.platform about1 = true :=
  (Spec.applies_iff w_frames).mpr ⟨w_running, w_runnable, w_alone, w_named, w_hears, w_ripe, w_room, w_tables⟩
theorem atStart : AtStart classFile x code maxLocals ret World_1 tables_1 room_1 Calls_1 rest_1 Pre_1 launch0 p0 e0 about1 theMethod args0 below0 :=
  ⟨lists_1, trivial, launch0.admits_env _ _ _, launch0.least_env, fairChoices_fair.cas, fairChoices_fair.clock, w_frames, w_args, w_heap, w_applies, trivial, trivial, w_case⟩
end start1
theorem witness_1 : WitnessClaimed_1 := ⟨start1.p0, start1.e0, start1.about1, start1.theMethod, start1.args0, start1.below0, start1.atStart⟩
end Jvm.Pilot.@@N@@
