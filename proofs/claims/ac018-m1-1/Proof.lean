import JvmDerived
import JvmDerived.Pilot.@@N@@Statement
import JvmDerived.Pilot.@@N@@Code
set_option linter.unusedVariables false
set_option linter.unusedSimpArgs false
namespace Jvm.RoadKit
open Sem ClassFile Op Lib Jvm.Stand Jvm.Free Jvm.LawKit
section New
variable {p : Program} {l : Launch} {e : Env} {R : Room} {s : State} {m : MethodId} {args : Array Value} {below : List Frame} {meth : Method} {c : Code} {T : State} {locs : List Loc} {cells slots : Nat}
theorem retI (X : Stand p l e R s m args below meth c T locs cells slots) (hx : p.tables.exec = Jvm.exec) {pc : Nat} {Ls : Array Slot} {z : Int32} {rest : List Value} (hret : meth.sig.returnType = some .int) (hd : decode c.code pc = .ok (.ireturn, 1)) {fs : List Frame}
    (hl : ∀ (f : JFrame) (acts : List Action), f.method = m → f.locked = none → f.entered = [] → (doReturn e (T.setTop f) acts (some (.int z))).1 = T.setFrames fs) : Steps p.tables e below (T.setTop (mkF m pc Ls (.int z :: rest))) (T.setFrames fs) := by
  have hm' : T.vm.method? m = some meth := X.method'
  have hn : narrow .int (.int z) = .int z := rfl
  show Steps p.tables e below (T.setTop { method := m, pc := pc, locals := Ls, stack := _ :: rest, locked := none }) _
  jvm_step X.here [X.here.top, hx, hd, hm', hret, hn]
  first | (intro acts; rw [hl _ acts rfl rfl rfl]) | rw [hl _ _ rfl rfl rfl]
  exact Steps.refl _
end New
end Jvm.RoadKit
namespace Jvm.RoadKit
open Sem ClassFile Op Lib Jvm.Stand Jvm.Free Jvm.LawKit
/-- own: the rest of a run, from the state t on -/
def Go (p : Program) (e : Env) (below : List Frame) (s : State) (Q : Option Value → Heap → List Loc → Prop) (C S : Nat) (t : State) : Prop :=
  ∃ s₂ o, Steps p.tables e below t s₂ ∧ s₂.status = .running ∧ Ended s₂ below o ∧ ∃ v L, o = .returned v ∧ Q v s₂.heap L ∧ FrameEnd s o s₂ L C S
theorem Go.st {p : Program} {e : Env} {below : List Frame} {s : State} {Q : Option Value → Heap → List Loc → Prop} {C S : Nat} {t t' : State} (h : ∀ target, Steps p.tables e below t' target → Steps p.tables e below t target) (k : Go p e below s Q C S t') : Go p e below s Q C S t := by
  obtain ⟨s₂, o, h1, h2⟩ := k
  exact ⟨s₂, o, h _ h1, h2⟩
theorem Go.by {p : Program} {e : Env} {below : List Frame} {s : State} {Q : Option Value → Heap → List Loc → Prop} {C S : Nat} {t t' : State} (h : Steps p.tables e below t t') (k : Go p e below s Q C S t') : Go p e below s Q C S t := by
  obtain ⟨s₂, o, h1, h2⟩ := k
  exact ⟨s₂, o, h.trans h1, h2⟩
theorem Go.ret {p : Program} {l : Launch} {e : Env} {R : Room} {s : State} {m : MethodId} {args : Array Value} {below : List Frame} {meth : Method} {c : Code} {T : State} {locs : List Loc} {cells slots : Nat} {Q : Option Value → Heap → List Loc → Prop} {C S : Nat} {t : State}
    (X : Stand p l e R s m args below meth c T locs cells slots) {v : Option Value} (hv : meth.sig.returnType = none → v = none) (hlocks : meth.locks = false)
    (st : ∀ fs, (∀ (f : JFrame) (acts : List Action), f.method = m → f.locked = none → f.entered = [] → (doReturn e (T.setTop f) acts v).1 = T.setFrames fs) → Steps p.tables e below t (T.setFrames fs))
    (hQ : Q v T.heap locs) (hC : cells ≤ C) (hS : slots ≤ S) : Go p e below s Q C S t := by
  obtain ⟨fs, hr, hrun, hended, hW, hsame⟩ := X.leave hv hlocks
  exact ⟨_, _, st fs hr, hrun, hended, _, _, rfl, hQ, ⟨_, rfl⟩, hW, hsame.mono hC hS⟩
def GoW (p : Program) (e : Env) (below : List Frame) (s : State) (Q : Option Value → Heap → List Loc → Prop) (C S : Nat) (t : State) : Prop :=
  ∃ s₂ o, Steps p.tables e below t s₂ ∧ s₂.status = .running ∧ Ended s₂ below o ∧ ∃ v L, o = .returned v ∧ Q v s₂.heap L ∧ ReturnedEndW s o s₂ L C S
theorem GoW.st {p : Program} {e : Env} {below : List Frame} {s : State} {Q : Option Value → Heap → List Loc → Prop} {C S : Nat} {t t' : State} (h : ∀ target, Steps p.tables e below t' target → Steps p.tables e below t target) (k : GoW p e below s Q C S t') : GoW p e below s Q C S t := by
  obtain ⟨s₂, o, h1, h2⟩ := k
  exact ⟨s₂, o, h _ h1, h2⟩
theorem GoW.by {p : Program} {e : Env} {below : List Frame} {s : State} {Q : Option Value → Heap → List Loc → Prop} {C S : Nat} {t t' : State} (h : Steps p.tables e below t t') (k : GoW p e below s Q C S t') : GoW p e below s Q C S t := by
  obtain ⟨s₂, o, h1, h2⟩ := k
  exact ⟨s₂, o, h.trans h1, h2⟩
theorem GoW.ret {p : Program} {l : Launch} {e : Env} {R : Room} {s : State} {vm₁ : Vm} {m : MethodId} {args : Array Value} {below : List Frame} {meth : Method} {c : Code} {T : State} {locs : List Loc} {cells slots : Nat} {Q : Option Value → Heap → List Loc → Prop} {C S : Nat} {t : State}
    (X : Stand p l e R (s.setVm vm₁) m args below meth c T locs cells slots) {n : Nat} (hSi : s.Since vm₁ n) (hn : n ≤ T.heap.size) {v : Option Value} (hv : meth.sig.returnType = none → v = none) (hlocks : meth.locks = false)
    (st : ∀ fs, (∀ (f : JFrame) (acts : List Action), f.method = m → f.locked = none → f.entered = [] → (doReturn e (T.setTop f) acts v).1 = T.setFrames fs) → Steps p.tables e below t (T.setFrames fs))
    (hQ : Q v T.heap locs) (hC : cells ≤ C) (hS : slots ≤ S) : GoW p e below s Q C S t := by
  obtain ⟨fs, hr, hrun, hended, h1, h2, h3, h4⟩ := X.leaveW hSi hn hv hlocks
  exact ⟨_, _, st fs hr, hrun, hended, _, _, rfl, hQ, h1, h2, h3, h4.mono hC hS⟩
abbrev Rm (f c s l : Nat) : Room := { frames := f, cells := c, slots := s, locals := l }
abbrev Met (l : Launch) (Z : State) (ws : List Cond) (y : MethodName) (bytes : ByteArray) (ml : Nat) (rt : Option FieldType) (rm : Room) (as' : Array Value) (h0 : Heap) (Q : Option Value → Heap → List Loc → Prop) : Prop :=
  MetFree l y (head1 (Cond.code y bytes ml rt :: ws) rm) (fun a U => a = as' ∧ Z.Warmed39 U.vm ∧ U.heap = h0) (fun _ _ _ _ _ => True) (fun _ U o U' => ∃ v L, o = .returned v ∧ Q v U'.heap L ∧ FrameEnd U o U' L rm.cells rm.slots)
theorem Met.enter {l : Launch} {Z : State} {ws : List Cond} {y : MethodName} {bytes : ByteArray} {ml : Nat} {rt : Option FieldType} {rm : Room} {as' : Array Value} {h0 : Heap} {Q : Option Value → Heap → List Loc → Prop} {L0 : Array Slot} (hp : plainFor y = true) (ef : ∀ m, entryFrame m as' ml = mkF m 0 L0 [])
    (body : ∀ (p : Program) (e : Env) (s : State) (m : MethodId) (below : List Frame) (meth : Method) (c : Code) (s₁ : State), p.tables.exec = Jvm.exec → c.code = bytes → c.maxLocals = ml → s.vm.findClass y.cls = some m.cls → meth.name = y.name → meth.sig.returnType = rt → meth.locks = false → Z.Warmed39 s.vm → Stand p l e rm s m as' below meth c s₁ [] 0 0 → s₁.heap = h0 → Go p e below s Q rm.cells rm.slots (s₁.setTop (mkF m 0 L0 []))) : Met l Z ws y bytes ml rt rm as' h0 Q := by
  refine MetFree.of_bodySF hp hisR ?_
  intro p e s m args below meth c s₁ Bd hml0 hP hK
  obtain ⟨rfl, hZ, hh⟩ := hP
  have e0 : s₁.heap = h0 := by rw [← hh, Bd.state]; rfl
  exact Go.st (fun t k => castTop (ef m) k) (body p e s m below meth c s₁ Bd.exec Bd.bytes hml0 (findClass_of_methodNamed Bd.named) (name_of_methodNamed Bd.named Bd.method).1 Bd.returns (BodyLoose.notSynchronized Bd) hZ (Stand.of_body Bd) e0)
abbrev MetW (l : Launch) (Z : State) (ws : List Cond) (y : MethodName) (bytes : ByteArray) (ml : Nat) (rt : Option FieldType) (rm : Room) (as' : Array Value) (h0 : Heap) (Q : Option Value → Heap → List Loc → Prop) : Prop :=
  MetFree l y (head1 (Cond.code y bytes ml rt :: ws) rm) (fun a U => a = as' ∧ Z.Warmed39 U.vm ∧ U.heap = h0) (fun _ _ _ _ _ => True) (fun _ U o U' => ∃ v L, o = .returned v ∧ Q v U'.heap L ∧ ReturnedEndW U o U' L rm.cells rm.slots)
theorem MetW.enter {l : Launch} {Z : State} {ws : List Cond} {y : MethodName} {bytes : ByteArray} {ml : Nat} {rt : Option FieldType} {rm : Room} {as' : Array Value} {h0 : Heap} {Q : Option Value → Heap → List Loc → Prop} {L0 : Array Slot} (hp : plainFor y = true) (ef : ∀ m, entryFrame m as' ml = mkF m 0 L0 [])
    (body : ∀ (p : Program) (e : Env) (s : State) (m : MethodId) (below : List Frame) (meth : Method) (c : Code) (s₁ : State), p.tables.exec = Jvm.exec → c.code = bytes → c.maxLocals = ml → s.vm.findClass y.cls = some m.cls → meth.name = y.name → meth.sig.returnType = rt → meth.locks = false → Z.Warmed39 s.vm → Stand p l e rm (s.setVm s.vm) m as' below meth c s₁ [] 0 0 → s₁.heap = h0 → GoW p e below s Q rm.cells rm.slots (s₁.setTop (mkF m 0 L0 []))) : MetW l Z ws y bytes ml rt rm as' h0 Q := by
  refine MetFree.of_bodySF hp hisR ?_
  intro p e s m args below meth c s₁ Bd hml0 hP hK
  obtain ⟨rfl, hZ, hh⟩ := hP
  have e0 : s₁.heap = h0 := by rw [← hh, Bd.state]; rfl
  exact GoW.st (fun t k => castTop (ef m) k) (body p e s m below meth c s₁ Bd.exec Bd.bytes hml0 (findClass_of_methodNamed Bd.named) (name_of_methodNamed Bd.named Bd.method).1 Bd.returns (BodyLoose.notSynchronized Bd) hZ (Stand.of_body Bd) e0)
def GoH (p : Program) (e : Env) (below : List Frame) (s : State) (P : Option Value → State → List Loc → Prop) (C S : Nat) (t : State) : Prop :=
  ∃ s₂ o, Steps p.tables e below t s₂ ∧ s₂.status = .running ∧ Ended s₂ below o ∧ ∃ v L, o = .returned v ∧ P v s₂ L ∧ ReturnedEndW s o s₂ L C S
theorem GoH.st {p : Program} {e : Env} {below : List Frame} {s : State} {P : Option Value → State → List Loc → Prop} {C S : Nat} {t t' : State} (h : ∀ target, Steps p.tables e below t' target → Steps p.tables e below t target) (k : GoH p e below s P C S t') : GoH p e below s P C S t := by
  obtain ⟨s₂, o, h1, h2⟩ := k
  exact ⟨s₂, o, h _ h1, h2⟩
theorem GoH.by {p : Program} {e : Env} {below : List Frame} {s : State} {P : Option Value → State → List Loc → Prop} {C S : Nat} {t t' : State} (h : Steps p.tables e below t t') (k : GoH p e below s P C S t') : GoH p e below s P C S t := by
  obtain ⟨s₂, o, h1, h2⟩ := k
  exact ⟨s₂, o, h.trans h1, h2⟩
theorem GoH.ret {p : Program} {l : Launch} {e : Env} {R : Room} {s : State} {vm₁ : Vm} {m : MethodId} {args : Array Value} {below : List Frame} {meth : Method} {c : Code} {T : State} {locs : List Loc} {cells slots : Nat} {Q : Option Value → Heap → List Loc → Prop} {C S : Nat} {t : State} {Z : State} {EL : List (String × Nat)} {a0 : Array Value} {h0 h : Heap}
    (X : Stand p l e R (s.setVm vm₁) m args below meth c T locs cells slots) {n : Nat} (hSi : s.Since vm₁ n) (hn : n ≤ T.heap.size) (hZ : Z.Warmed39 vm₁) (hEL : EW Z a0 EL) (ch : CHr Z EL s.vm h0 vm₁ h) (eT : T.heap = h) {v : Option Value} (hv : meth.sig.returnType = none → v = none) (hlocks : meth.locks = false)
    (st : ∀ fs, (∀ (f : JFrame) (acts : List Action), f.method = m → f.locked = none → f.entered = [] → (doReturn e (T.setTop f) acts v).1 = T.setFrames fs) → Steps p.tables e below t (T.setFrames fs))
    (hQ : Q v T.heap locs) (hC : cells ≤ C) (hS : slots ≤ S) : GoH p e below s (fun v s₂ L => Q v s₂.heap L ∧ CHr Z EL s.vm h0 s₂.vm s₂.heap) C S t := by
  obtain ⟨fs, hr, hrun, hended, h1, h2, h3, h4⟩ := X.leaveW hSi hn hv hlocks
  have q := ch.trans (CHv.at X hZ hEL ch.1)
  rw [← eT] at q
  exact ⟨_, _, st fs hr, hrun, hended, _, _, rfl, ⟨hQ, q⟩, h1, h2, h3, h4.mono hC hS⟩
abbrev MetH (EL : List (String × Nat)) (xs : List Addr) (l : Launch) (Z : State) (ws : List Cond) (y : MethodName) (bytes : ByteArray) (ml : Nat) (rt : Option FieldType) (rm : Room) (as' : Array Value) (h0 : Heap) (Q : Option Value → Heap → List Loc → Prop) : Prop :=
  MetFree l y (head1 (Cond.code y bytes ml rt :: ws) rm) (fun a U => a = as' ∧ Z.Warmed39 U.vm ∧ U.heap = h0 ∧ CHv Z EL U.vm h0 ∧ ∀ x ∈ xs, Safe Z EL U.vm h0 x) (fun _ _ _ _ _ => True) (fun _ U o U' => ∃ v L, o = .returned v ∧ Q v U'.heap L ∧ CHr Z EL U.vm U.heap U'.vm U'.heap ∧ ReturnedEndW U o U' L rm.cells rm.slots)
theorem MetH.enter {EL : List (String × Nat)} {xs : List Addr} {l : Launch} {Z : State} {ws : List Cond} {y : MethodName} {bytes : ByteArray} {ml : Nat} {rt : Option FieldType} {rm : Room} {as' : Array Value} {h0 : Heap} {Q : Option Value → Heap → List Loc → Prop} {L0 : Array Slot} (hp : plainFor y = true) (ef : ∀ m, entryFrame m as' ml = mkF m 0 L0 [])
    (body : ∀ (p : Program) (e : Env) (s : State) (m : MethodId) (below : List Frame) (meth : Method) (c : Code) (s₁ : State), p.tables.exec = Jvm.exec → c.code = bytes → c.maxLocals = ml → s.vm.findClass y.cls = some m.cls → meth.name = y.name → meth.sig.returnType = rt → meth.locks = false → Z.Warmed39 s.vm → Stand p l e rm (s.setVm s.vm) m as' below meth c s₁ [] 0 0 → s₁.heap = h0 → CHv Z EL s.vm h0 → (∀ x ∈ xs, Safe Z EL s.vm h0 x) → GoH p e below s (fun v s₂ L => Q v s₂.heap L ∧ CHr Z EL s.vm h0 s₂.vm s₂.heap) rm.cells rm.slots (s₁.setTop (mkF m 0 L0 []))) : MetH EL xs l Z ws y bytes ml rt rm as' h0 Q := by
  refine MetFree.of_bodySF hp hisR ?_
  intro p e s m args below meth c s₁ Bd hml0 hP hK
  obtain ⟨rfl, hZ, hh, hH, hX⟩ := hP
  have e0 : s₁.heap = h0 := by rw [← hh, Bd.state]; rfl
  obtain ⟨s₂, o, q1, q2, q3, v, L, q4, ⟨q5, q6⟩, q7⟩ := GoH.st (fun t k => castTop (ef m) k) (body p e s m below meth c s₁ Bd.exec Bd.bytes hml0 (findClass_of_methodNamed Bd.named) (name_of_methodNamed Bd.named Bd.method).1 Bd.returns (BodyLoose.notSynchronized Bd) hZ (Stand.of_body Bd) e0 hH hX)
  exact ⟨s₂, o, q1, q2, q3, v, L, q4, q5, by rw [hh]; exact q6, q7⟩
abbrev MetP (EL : List (String × Nat)) (xs : List Addr) (l : Launch) (Z : State) (ws : List Cond) (y : MethodName) (bytes : ByteArray) (ml : Nat) (rt : Option FieldType) (rm : Room) (as' : Array Value) (h0 : Heap) (Q : Option Value → Heap → List Loc → Prop) : Prop :=
  MetFree l y (head1 (Cond.code y bytes ml rt :: ws) rm) (fun a U => a = as' ∧ Z.Warmed39 U.vm ∧ U.heap = h0 ∧ CHv Z EL U.vm h0 ∧ ∀ x ∈ xs, Safe Z EL U.vm h0 x) (fun _ _ _ _ _ => True) (fun _ U o U' => ∃ v L, o = .returned v ∧ Q v U'.heap L ∧ ReturnedEndW U o U' L rm.cells rm.slots)
theorem MetP.enter {EL : List (String × Nat)} {xs : List Addr} {l : Launch} {Z : State} {ws : List Cond} {y : MethodName} {bytes : ByteArray} {ml : Nat} {rt : Option FieldType} {rm : Room} {as' : Array Value} {h0 : Heap} {Q : Option Value → Heap → List Loc → Prop} {L0 : Array Slot} (hp : plainFor y = true) (ef : ∀ m, entryFrame m as' ml = mkF m 0 L0 [])
    (body : ∀ (p : Program) (e : Env) (s : State) (m : MethodId) (below : List Frame) (meth : Method) (c : Code) (s₁ : State), p.tables.exec = Jvm.exec → c.code = bytes → c.maxLocals = ml → s.vm.findClass y.cls = some m.cls → meth.name = y.name → meth.sig.returnType = rt → meth.locks = false → Z.Warmed39 s.vm → Stand p l e rm (s.setVm s.vm) m as' below meth c s₁ [] 0 0 → s₁.heap = h0 → CHv Z EL s.vm h0 → (∀ x ∈ xs, Safe Z EL s.vm h0 x) → GoW p e below s Q rm.cells rm.slots (s₁.setTop (mkF m 0 L0 []))) : MetP EL xs l Z ws y bytes ml rt rm as' h0 Q := by
  refine MetFree.of_bodySF hp hisR ?_
  intro p e s m args below meth c s₁ Bd hml0 hP hK
  obtain ⟨rfl, hZ, hh, hH, hX⟩ := hP
  have e0 : s₁.heap = h0 := by rw [← hh, Bd.state]; rfl
  exact GoW.st (fun t k => castTop (ef m) k) (body p e s m below meth c s₁ Bd.exec Bd.bytes hml0 (findClass_of_methodNamed Bd.named) (name_of_methodNamed Bd.named Bd.method).1 Bd.returns (BodyLoose.notSynchronized Bd) hZ (Stand.of_body Bd) e0 hH hX)
theorem own_backOfSX {p : Program} {l : Launch} {e : Env} {R : Room} {s : State} {args : Array Value} {below : List Frame} {Z : State} {a0 : Array Value} {EL : List (String × Nat)} {xs : List Addr} {h : Heap} {vm0 : Vm} {y : MethodName} {bytes : ByteArray} {maxL : Nat} {ret : Option FieldType} {rm : Room} {len W : Nat} {as' : Array Value} {Q : Option Value → Heap → List Loc → Prop}
    (hM : MetFree l y (head1 [Cond.code y bytes maxL ret] rm) (fun a U => a = as' ∧ Z.Warmed39 U.vm ∧ U.heap = h ∧ CHv Z EL U.vm h ∧ ∀ x ∈ xs, Safe Z EL U.vm h x) (fun _ _ _ _ _ => True) (fun _ U o U' => ∃ v L, o = .returned v ∧ Q v U'.heap L ∧ CHr Z EL U.vm U.heap U'.vm U'.heap ∧ ReturnedEndW U o U' L rm.cells rm.slots))
    (hZ : Z.Warmed39 vm0) (wc : (Cond.code y bytes maxL ret).before a0 Z = true) (wz : (Cond.initialized y.cls).before a0 Z = true) (hf : rm.frames + 1 ≤ R.frames) (hl : W + (maxL + 11) + rm.locals ≤ R.locals) (hEL : EW Z a0 EL) (H : CHv Z EL vm0 h) (hxs : ∀ x ∈ xs, x < h.size ∧ Safe Z EL vm0 h x) :
    BackS l R p e below (s.setVm vm0) args y len W (fun A a => a = as' ∧ A.U.heap = h ∧ A.cells + rm.cells ≤ R.cells ∧ A.slots + rm.slots ≤ R.slots)
      (fun A _ v B => ∃ L, Q v B.U.heap L ∧ B.locs = A.locs ++ L ∧ B.cells = A.cells + rm.cells ∧ B.slots = A.slots + rm.slots ∧ CHr Z EL vm0 h B.U.vm B.U.heap) :=
  BackS.of_freeW (bytes := bytes) (maxL := maxL) (ret := ret) (E := fun _ first o t L k n => k = rm.cells ∧ n = rm.slots ∧ (∃ v, o = .returned v ∧ Q v t.heap L) ∧ CHr Z EL first.vm first.heap t.vm t.heap) hM hf hl
    (fun m meth c A a Y hp => have hU : Z.Warmed39 A.U.vm := wtrans (s := s.setVm vm0) hZ Y.warmed
      ⟨by show (Cond.and _ .tt).before a A.U = true; rw [Cond.before_and, mv hU wc]; rfl, mv hU wc, mv hU wz, hp.2.2.1, hp.2.2.2⟩)
    (fun m meth c A a g mk Y hp => ⟨hp.1, wtrans (s := s.setVm vm0) hZ Y.warmed, hp.2.1, (CHv.at Y hZ hEL H).1, fun x hx => (CHv.at Y hZ hEL H).safe (hxs x hx).1 (hxs x hx).2⟩) (fun _ _ _ _ _ _ _ _ _ => trivial)
    (fun _ _ _ _ ⟨v, L, h1, h2, h3, h4⟩ => ⟨L, _, _, h4, rfl, rfl, ⟨v, h1, h2⟩, h3⟩)
    (fun m meth c A a g mk v t L k n Y hp _ _ ⟨e1, e2, ⟨v', e3, e4⟩, e5⟩ => by
      cases e3; subst e1 e2
      refine ⟨L, e4, rfl, rfl, rfl, (CHv.at Y hZ hEL H).trans ?_⟩
      rw [← hp.2.1]; exact e5)
theorem own_backOfSP {p : Program} {l : Launch} {e : Env} {R : Room} {s : State} {args : Array Value} {below : List Frame} {Z : State} {a0 : Array Value} {EL : List (String × Nat)} {xs : List Addr} {h : Heap} {vm0 : Vm} {y : MethodName} {bytes : ByteArray} {maxL : Nat} {ret : Option FieldType} {rm : Room} {len W : Nat} {as' : Array Value} {Q : Option Value → Heap → List Loc → Prop}
    (hM : MetFree l y (head1 [Cond.code y bytes maxL ret] rm) (fun a U => a = as' ∧ Z.Warmed39 U.vm ∧ U.heap = h ∧ CHv Z EL U.vm h ∧ ∀ x ∈ xs, Safe Z EL U.vm h x) (fun _ _ _ _ _ => True) (fun _ U o U' => ∃ v L, o = .returned v ∧ Q v U'.heap L ∧ ReturnedEndW U o U' L rm.cells rm.slots))
    (hZ : Z.Warmed39 vm0) (wc : (Cond.code y bytes maxL ret).before a0 Z = true) (wz : (Cond.initialized y.cls).before a0 Z = true) (hf : rm.frames + 1 ≤ R.frames) (hl : W + (maxL + 11) + rm.locals ≤ R.locals) (hEL : EW Z a0 EL) (H : CHv Z EL vm0 h) (hxs : ∀ x ∈ xs, x < h.size ∧ Safe Z EL vm0 h x) :
    BackS l R p e below (s.setVm vm0) args y len W (fun A a => a = as' ∧ A.U.heap = h ∧ A.cells + rm.cells ≤ R.cells ∧ A.slots + rm.slots ≤ R.slots)
      (fun A _ v B => ∃ L, Q v B.U.heap L ∧ B.locs = A.locs ++ L ∧ B.cells = A.cells + rm.cells ∧ B.slots = A.slots + rm.slots) :=
  BackS.of_freeW (bytes := bytes) (maxL := maxL) (ret := ret) (E := fun _ first o t L k n => k = rm.cells ∧ n = rm.slots ∧ (∃ v, o = .returned v ∧ Q v t.heap L)) hM hf hl
    (fun m meth c A a Y hp => have hU : Z.Warmed39 A.U.vm := wtrans (s := s.setVm vm0) hZ Y.warmed
      ⟨by show (Cond.and _ .tt).before a A.U = true; rw [Cond.before_and, mv hU wc]; rfl, mv hU wc, mv hU wz, hp.2.2.1, hp.2.2.2⟩)
    (fun m meth c A a g mk Y hp => ⟨hp.1, wtrans (s := s.setVm vm0) hZ Y.warmed, hp.2.1, (CHv.at Y hZ hEL H).1, fun x hx => (CHv.at Y hZ hEL H).safe (hxs x hx).1 (hxs x hx).2⟩) (fun _ _ _ _ _ _ _ _ _ => trivial)
    (fun _ _ _ _ ⟨v, L, h1, h2, h4⟩ => ⟨L, _, _, h4, rfl, rfl, ⟨v, h1, h2⟩⟩)
    (fun m meth c A a g mk v t L k n Y hp _ _ ⟨e1, e2, ⟨v', e3, e4⟩⟩ => by
      cases e3; subst e1 e2
      exact ⟨L, e4, rfl, rfl, rfl⟩)
theorem retR {p : Program} {l : Launch} {e : Env} {R : Room} {s : State} {m : MethodId} {args : Array Value} {below : List Frame} {meth : Method} {c : Code} {T : State} {locs : List Loc} {cells slots : Nat} (X : Stand p l e R s m args below meth c T locs cells slots) (hx : p.tables.exec = Jvm.exec) {pc : Nat} {Ls : Array Slot} {z : Value} {rest : List Value} {t : FieldType} (hret : meth.sig.returnType = some t) (ht : t.isReference = true) (hz : z.isRef = true) (hd : decode c.code pc = .ok (.areturn, 1)) {fs : List Frame}
    (hl : ∀ (f : JFrame) (acts : List Action), f.method = m → f.locked = none → f.entered = [] → (doReturn e (T.setTop f) acts (some z)).1 = T.setFrames fs) : Steps p.tables e below (T.setTop (mkF m pc Ls (z :: rest))) (T.setFrames fs) := by
  have hm' : T.vm.method? m = some meth := X.method'
  show Steps p.tables e below (T.setTop { method := m, pc := pc, locals := Ls, stack := _ :: rest, locked := none }) _
  jvm_step X.here [X.here.top, hx, hd, hm', hret, ht, hz]
  first | (intro acts; rw [hl _ acts rfl rfl rfl]) | rw [hl _ _ rfl rfl rfl]
  exact Steps.refl _
theorem retJ {p : Program} {l : Launch} {e : Env} {R : Room} {s : State} {m : MethodId} {args : Array Value} {below : List Frame} {meth : Method} {c : Code} {T : State} {locs : List Loc} {cells slots : Nat} (X : Stand p l e R s m args below meth c T locs cells slots) (hx : p.tables.exec = Jvm.exec) {pc : Nat} {Ls : Array Slot} {z : Int64} {rest : List Value} (hret : meth.sig.returnType = some .long) (hd : decode c.code pc = .ok (.lreturn, 1)) {fs : List Frame}
    (hl : ∀ (f : JFrame) (acts : List Action), f.method = m → f.locked = none → f.entered = [] → (doReturn e (T.setTop f) acts (some (.long z))).1 = T.setFrames fs) : Steps p.tables e below (T.setTop (mkF m pc Ls (.long z :: rest))) (T.setFrames fs) := by
  have hm' : T.vm.method? m = some meth := X.method'
  show Steps p.tables e below (T.setTop { method := m, pc := pc, locals := Ls, stack := _ :: rest, locked := none }) _
  jvm_step X.here [X.here.top, hx, hd, hm', hret, narrow]
  first | (intro acts; rw [hl _ acts rfl rfl rfl]) | rw [hl _ _ rfl rfl rfl]
  exact Steps.refl _
theorem retD {p : Program} {l : Launch} {e : Env} {R : Room} {s : State} {m : MethodId} {args : Array Value} {below : List Frame} {meth : Method} {c : Code} {T : State} {locs : List Loc} {cells slots : Nat} (X : Stand p l e R s m args below meth c T locs cells slots) (hx : p.tables.exec = Jvm.exec) {pc : Nat} {Ls : Array Slot} {z : UInt64} {rest : List Value} (hret : meth.sig.returnType = some .double) (hd : decode c.code pc = .ok (.dreturn, 1)) {fs : List Frame}
    (hl : ∀ (f : JFrame) (acts : List Action), f.method = m → f.locked = none → f.entered = [] → (doReturn e (T.setTop f) acts (some (.double z))).1 = T.setFrames fs) : Steps p.tables e below (T.setTop (mkF m pc Ls (.double z :: rest))) (T.setFrames fs) := by
  have hm' : T.vm.method? m = some meth := X.method'
  show Steps p.tables e below (T.setTop { method := m, pc := pc, locals := Ls, stack := _ :: rest, locked := none }) _
  jvm_step X.here [X.here.top, hx, hd, hm', hret, narrow]
  first | (intro acts; rw [hl _ acts rfl rfl rfl]) | rw [hl _ _ rfl rfl rfl]
  exact Steps.refl _
theorem Arr.keep {Z : State} {h h' : Heap} {a : Addr} {c : Cell} {ty : FieldType} {ws : List Addr} (F : Arr Z h a c ty) (K : Keep h h' ws) (q : a ∉ ws) : Arr Z h' a c ty := ⟨K.2.1 a c F.1 q, F.2⟩
theorem Ins.keep {Z : State} {h h' : Heap} {a : Addr} {C : String} {b : Bool} {ws : List Addr} (F : Ins Z h a C b) (K : Keep h h' ws) : Ins Z h' a C b := by
  obtain ⟨cell, cT, h1, h2, h3⟩ := F
  obtain ⟨c', q, r1, r2, -⟩ := K.2.2 a cell h1
  exact ⟨c', cT, q, h2, by rw [r1, r2]; exact h3⟩
theorem own_selp {Z : State} {a0 : Array Value} {y : MethodName} {k : Nat} (wi : (Jvm.Cond.instantiable y.cls k).before a0 Z = true) (wp : (Jvm.Cond.privateMethod y).before a0 Z = true) (wm : (Jvm.Cond.instanceMethod y).before a0 Z = true) (hy : y.cls ≠ "java/lang/invoke/MethodHandle" ∧ y.cls ≠ "java/lang/invoke/VarHandle") : (Jvm.Cond.selects y.cls y y).before a0 Z = true := by
  obtain ⟨c, k', h1, h2, -, h3, -⟩ := Cond.instantiable_spec wi
  exact selects_self_of_private h1 h2 (by simp only [Bool.or_eq_false_iff] at h3; exact h3.1) (Cond.privateMethod_at wp) wm hy
theorem own_mvNest {Z s : State} {a0 args : Array Value} {own host : String} {index : Nat} {y : MethodName} (hZ : Z.Warmed39 s.vm) (w : (Jvm.Cond.methodLinkNest own index y host).before a0 Z = true) : (Jvm.Cond.methodLinkNest own index y host).before args s = true := (Cond.methodLinkNest_wide hZ w :)
theorem own_nsroot {Z : State} {a0 : Array Value} {O K : String} {n : Nat} (w : (Jvm.Cond.noSuperclass O).before a0 Z = true) (wk : (Jvm.Cond.instantiable K n).before a0 Z = true) (hn : O ≠ K) : NS Z O K := by
  obtain ⟨c, k, h1, h2, h3, -, -⟩ := Cond.noSuperclass_spec w
  obtain ⟨t, kt, g1, -⟩ := Cond.instantiable_spec wk
  have ne := ids_ne h1 g1 hn
  exact ⟨c, t, h1, g1, fun fuel => by cases fuel with | zero => rfl | succ f => simp [Vm.isSubclassAux, ne, h2, h3]⟩
theorem own_nsno {Z : State} {a0 : Array Value} {C S K : String} {n : Nat} (w : (Jvm.Cond.superclass C S).before a0 Z = true) (wk : (Jvm.Cond.instantiable K n).before a0 Z = true) (nn : NS Z C K) (hn : C ≠ K) : ∃ c t, Z.vm.findClass C = some c ∧ Z.vm.findClass K = some t ∧ Z.vm.assignable c t = false := by
  obtain ⟨c, t, h0, g0, n3⟩ := nn
  obtain ⟨p, k, kp, -, h2, -, -, h5, -, h7⟩ := Cond.superclass_spec h0 w
  obtain ⟨t', k', g1, g2, g3, g4, -⟩ := Cond.instantiable_spec wk
  cases g0.symm.trans g1
  simp only [Bool.or_eq_false_iff] at g4
  have ne := ids_ne h0 g0 hn
  refine ⟨c, _, h0, g0, ?_⟩
  show Z.vm.assignableAux (255 + 1) c _ = false
  simp [Vm.assignableAux, ne, h2, g2, h5, g3, g4.1, Vm.isSubclass, n3]
section OwnWords
variable {args : Array Value} {first s : State} {o : Option Outcome} {idx : List Nat} {a b t : Term}
theorem own_eqi {z : Int32} (h : (Jvm.Cond.eq a (Term.int z)).value args first o s idx = some true) : a.eval args first o idx s = some (.int z) := by
  obtain ⟨x, y, h1, h2, h3, h4⟩ := cmp_v (Or.inl h)
  obtain rfl : .int z = y := Option.some.inj ((Term.int_eval z).symm.trans h2)
  obtain ⟨w, rfl⟩ := h4
  simp only [Cond.value, h1, h2] at h
  simp at h
  rw [h1, h]
theorem own_eqr {w : Addr} (h : (Jvm.Cond.eq a b).value args first o s idx = some true) (hb : b.eval args first o idx s = some (.ref w)) : a.eval args first o idx s = some (.ref w) := by
  obtain ⟨x, y, h1, h2, h3, h4⟩ := cmp_v (Or.inl h)
  cases h2.symm.trans hb
  have hx : x.isRef = true := h4.2
  have q := gotT (eq_R h1 h2 hx rfl) h
  rw [h1, q]
theorem own_len {n : Int32} {w : Addr} {cl : Cell} (h : (Term.length t).eval args first o idx s = some (.int n)) (ht : t.eval args first o idx s = some (.ref w)) (hc : s.heap[w]? = some cl) : cl.slots.size = n.toNatClampNeg ∧ ¬ n < 0 := by
  obtain ⟨a', cell, ha', hat, hv⟩ := Term.length_spec h
  cases ht.symm.trans ha'
  cases (State.arrayAt?_spec hat).1.symm.trans hc
  have hsz : cl.slots.size < 2 ^ 31 := by
    simp only [Term.eval, ht, hat, Option.bind_eq_bind, Option.bind_some] at h
    by_cases hlt : cl.slots.size < 2147483648
    · exact hlt
    · simp [hlt] at h
  cases hv
  refine ⟨?_, ?_⟩
  · simp only [Int32.toNatClampNeg, len_toInt hsz]; rfl
  · rw [Int32.lt_iff_toInt_lt, len_toInt hsz]; show ¬ (cl.slots.size : Int) < 0; omega
end OwnWords
end Jvm.RoadKit
namespace Jvm.Pilot.@@N@@
open Jvm Jvm.ClassFile Sem Op Lib Jvm.Free Jvm.Stand Jvm.LawKit Jvm.RoadKit Bundle Jvm.Pilot.@@N@@.Jvm.D
set_option maxRecDepth 65536
set_option maxHeartbeats 40000000
section OwnJdk
variable {p : Program} {l : Launch} {e : Env} {R : Room} {s : State} {m : MethodId} {args : Array Value} {below : List Frame} {meth : Method} {c : Code} {T : State} {locs : List Loc} {cells slots : Nat} {Z : State} {h : Heap} {a : Addr}
/-- own: the Class object of C is made, at mr -/
def MirM (Z : State) (C : String) (mr : Addr) : Prop := ∃ (c : ClassId) (k : Class), Z.vm.findClass C = some c ∧ Z.vm.classes[c]? = some k ∧ k.mirror = some mr
theorem own_gcls (X : Stand p l e R s m args below meth c T locs cells slots) (hx : p.tables.exec = Jvm.exec) (hZ : Z.Warmed39 s.vm) {a0 : Array Value} {own C : String} {index : Nat} (hown : s.vm.findClass own = some m.cls)
    (w1 : (Jvm.Cond.methodLink own index ⟨"java/lang/Object", "getClass", "()Ljava/lang/Class;"⟩).before a0 Z = true) (w2 : (Jvm.Cond.declares ⟨"java/lang/Object", "getClass", "()Ljava/lang/Class;"⟩).before a0 Z = true) (w4 : (Jvm.Cond.selects C ⟨"java/lang/Object", "getClass", "()Ljava/lang/Class;"⟩ ⟨"java/lang/Object", "getClass", "()Ljava/lang/Class;"⟩).before a0 Z = true)
    (w5 : (Jvm.Cond.instanceMethod ⟨"java/lang/Object", "getClass", "()Ljava/lang/Class;"⟩).before a0 Z = true) (w6 : (Jvm.Cond.native ⟨"java/lang/Object", "getClass", "()Ljava/lang/Class;"⟩).before a0 Z = true) (eT : T.heap = h) (E : Exa Z h a C) {mr : Addr} (M : MirM Z C mr)
    {g : JFrame} (hg : g.method = m) (hsize : g.locals.size = c.maxLocals) {rest : List Value} (hs : g.stack = .ref a :: rest) (hd : decode c.code g.pc = .ok (.invokevirtual index, 3)) (hf : 1 ≤ R.frames) {W : Nat} (hW : 2 * g.monitorRoom + (rest.map fun v => v.category).sum ≤ W) (hl : W + 14 ≤ R.locals) :
    ∃ T', Stand p l e R s m args below meth c T' locs cells slots ∧ T'.heap = h ∧ ∀ target, Steps p.tables e below (T'.setTop { g with pc := g.pc + 3, stack := .ref mr :: rest }) target → Steps p.tables e below (T.setTop g) target := by
  obtain ⟨cB, kB, i1, i2, i3⟩ := isOf hZ eT E
  obtain ⟨cc, kc, m1, m2, m3⟩ := M
  rw [hZ.alike.findClass] at i1
  cases i1.symm.trans m1
  obtain ⟨k', q, ek⟩ := hZ.alike.2.2 _ _ m2
  obtain ⟨vm', X', st⟩ := X.getClassOf hx hown (mvT hZ w1) (mvT hZ w2) (notFace_of_selects (args := #[]) (mvT hZ w4)) (mvT hZ w4) (mvT hZ w5) (mvT hZ w6) (by rw [hZ.alike.findClass]; exact m1) i3 q (by rw [ek]; exact m3) hg hsize hs hd hf (by have e14 : nativeFrameWords "java/lang/Object" "getClass" 1 + 11 = 14 := (by decide); omega)
  exact ⟨_, X', eT, st⟩
theorem own_ldcM (X : Stand p l e R s m args below meth c T locs cells slots) (hx : p.tables.exec = Jvm.exec) (hZ : Z.Warmed39 s.vm) {a0 : Array Value} {own C : String} {index : Nat} (hown : s.vm.findClass own = some m.cls) (w : (Jvm.Cond.classLink own index C).before a0 Z = true) (eT : T.heap = h) {mr : Addr} (M : MirM Z C mr)
    {g : JFrame} (hg : g.method = m) (hd : decode c.code g.pc = .ok (.ldc index, 2)) :
    ∃ T', Stand p l e R s m args below meth c T' locs cells slots ∧ T'.heap = h ∧ ∀ target, Steps p.tables e below (T'.setTop { g with pc := g.pc + 2, stack := .ref mr :: g.stack }) target → Steps p.tables e below (T.setTop g) target := by
  obtain ⟨cc, kc, m1, m2, m3⟩ := M
  obtain ⟨k', q, ek⟩ := hZ.alike.2.2 _ _ m2
  have ev : (Term.mirror C).eval args s none [] s = some (.ref mr) := by
    have f1 : s.vm.findClass C = some cc := by rw [hZ.alike.findClass]; exact m1
    have f2 : k'.mirror = some mr := by rw [ek]; exact m3
    simp [Term.eval, f1, q, f2]
  obtain ⟨vm', X', st⟩ := X.ldcMirror hx hown (mv hZ w) ev hg hd
  exact ⟨_, X', eT, st⟩
/-- own: what holds of one method's class holds of another's of the same class -/
theorem own_nf {y z : MethodName} (h : NotFace s y) (hy : y.cls = z.cls) (wy : (Jvm.Cond.instanceMethod y).before args s = true) : NotFace s z := fun r0 h0 => by
  obtain ⟨my, methy, ny, -⟩ := Cond.instanceMethod_spec wy
  obtain ⟨kr, q1, q2⟩ := h my ny
  have f1 := findClass_of_methodNamed ny
  have f2 := findClass_of_methodNamed h0
  rw [← hy] at f2
  have e : my.cls = r0.cls := Option.some.inj (f1.symm.trans f2)
  exact ⟨kr, by rw [← e]; exact q1, q2⟩
end OwnJdk
theorem own_all {args : Array Value} {s : State} {t : Term} {c : Jvm.Cond} {w : Addr} {cl : Cell} (ht : t.eval args s none [] s = some (.ref w)) (hl : ∃ n, (Term.length t).eval args s none [] s = some (.int n)) (hc : s.heap[w]? = some cl) (h : (Jvm.Cond.all t c).value args s none s [] = some true) : ∀ i, i < cl.slots.size → c.value args s none s [i] = some true := by
  obtain ⟨n, hl⟩ := hl
  obtain ⟨a', cell, ha', hat, hv⟩ := Term.length_spec hl
  cases ht.symm.trans ha'
  cases (State.arrayAt?_spec hat).1.symm.trans hc
  exact Cond.all_elim ht hat h
theorem own_and3 (p : Int32) : (p &&& (3 : Int32)) = (0 : Int32) ∨ (p &&& (3 : Int32)) = (1 : Int32) ∨ (p &&& (3 : Int32)) = (2 : Int32) ∨ (p &&& (3 : Int32)) = (3 : Int32) := by
  have h := c_and p 3 (by decide)
  have e0 : (0 : Int32).toInt = 0 := rfl
  have e1 : (1 : Int32).toInt = 1 := rfl
  have e2 : (2 : Int32).toInt = 2 := rfl
  have e3 : (3 : Int32).toInt = 3 := rfl
  simp only [← Int32.toInt_inj, e0, e1, e2, e3]
  omega
theorem own_c255 (p : Int32) : ¬ ((255 : Int32) < ((p &&& (255 : Int32)).toUInt32.toUInt16.toUInt32.toInt32)) := by
  have h := c_and p 255 (by decide)
  have h2 := c_i2c (p &&& (255 : Int32))
  have e : (255 : Int32).toInt = 255 := rfl
  rw [Int32.lt_iff_toInt_lt]
  omega
theorem own_cache {p : Int32} (h1 : ¬ (p < (-128 : Int32))) (h2 : ¬ ((127 : Int32) < p)) : 0 ≤ (p + (128 : Int32)).toInt ∧ (p + (128 : Int32)).toInt < 256 := by
  rw [Int32.lt_iff_toInt_lt] at h1 h2
  have a := c_iadd p 128
  have r := rng32 (p + (128 : Int32))
  have e1 : (-128 : Int32).toInt = -128 := rfl
  have e2 : (127 : Int32).toInt = 127 := rfl
  have e3 : (128 : Int32).toInt = 128 := rfl
  omega
abbrev sq0 : String := "com/example/graphweave/graphweave/json/JsonObject"
abbrev sq1 : String := "java/lang/Object"
abbrev sq2 : String := "java/lang/String"
abbrev sq3 : String := "[Ljava/lang/Object;"
abbrev sq4 : String := "(Ljava/lang/String;Ljava/lang/Object;)Ljava/lang/Object;"
theorem tw20 : (Jvm.Cond.initialized "java/lang/String") ∈ tables_1 := List.mem_of_getElem? (i := 20) rfl
theorem tw28 : (Jvm.Cond.instantiable "java/lang/String" (4 : Nat)) ∈ tables_1 := List.mem_of_getElem? (i := 28) rfl
theorem tw32 : (Jvm.Cond.arrayClass Jvm.ClassFile.FieldType.byte) ∈ tables_1 := List.mem_of_getElem? (i := 32) rfl
theorem tw39 : (Jvm.Cond.laysFinal "java/lang/String" "java/lang/String" "value" "[B") ∈ tables_1 := List.mem_of_getElem? (i := 39) rfl
theorem tw41 : (Jvm.Cond.laysFinal "java/lang/String" "java/lang/String" "coder" "B") ∈ tables_1 := List.mem_of_getElem? (i := 41) rfl
theorem tw55 : (Jvm.Cond.soleField "java/lang/String" "value") ∈ tables_1 := List.mem_of_getElem? (i := 55) rfl
theorem tw56 : (Jvm.Cond.soleField "java/lang/String" "coder") ∈ tables_1 := List.mem_of_getElem? (i := 56) rfl
theorem own_wS {Z : State} {a0 : Array Value} (hw : ∀ d ∈ tables_1, d.before a0 Z = true) : ∀ a ∈ Bundle.stringAtoms, a.before a0 Z = true := by
  intro a ha
  simp only [Bundle.stringAtoms, List.mem_cons, List.not_mem_nil, or_false] at ha
  rcases ha with rfl | rfl | rfl | rfl | rfl | rfl | rfl
  · exact hw _ tw20
  · exact hw _ tw28
  · exact hw _ tw32
  · exact hw _ tw39
  · exact hw _ tw41
  · exact hw _ tw55
  · exact hw _ tw56
theorem d2_0 : decode jdk_71_method_1_code 0 = .ok (.aload_n 0, 1) := by decide +kernel
theorem d2_1 : decode jdk_71_method_1_code 1 = .ok (.invokespecial 1, 3) := by decide +kernel
theorem tw11 : (Jvm.Cond.methodLink "java/util/AbstractMap" (1 : Nat) ({ cls := "java/lang/Object", name := "<init>", desc := "()V" } : Jvm.MethodName)) ∈ tables_1 := List.mem_of_getElem? (i := 11) rfl
theorem tw12 : (Jvm.Cond.instanceMethod ({ cls := "java/lang/Object", name := "<init>", desc := "()V" } : Jvm.MethodName)) ∈ tables_1 := List.mem_of_getElem? (i := 12) rfl
theorem tw13 : (Jvm.Cond.code ({ cls := "java/lang/Object", name := "<init>", desc := "()V" } : Jvm.MethodName) object_method_1_code (1 : Nat) (Option.none : Option Jvm.ClassFile.FieldType)) ∈ tables_1 := List.mem_of_getElem? (i := 13) rfl
theorem d2_4 : decode jdk_71_method_1_code 4 = .ok (.return_, 1) := by decide +kernel
theorem ef2 (m : MethodId) (x0 : Addr) : entryFrame m #[(.ref x0)] 1 = mkF m 0 #[.val (.ref x0)] [] := by first | (simp [entryFrame, mkF, argsToLocals, Value.category]; done) | rfl
def Q2 (Z : State) (a0_ : Addr) (h0 : Heap) (n0 : Nat) (v : Option Value) (h : Heap) (L : List Loc) : Prop := v = none ∧ Fr n0 L ∧ h = h0
theorem pn3 : plainName "java/util/AbstractMap" = true := by first | (simp [plainName, overriddenIn]; done) | decide +kernel
theorem rm2 (l : Launch) (Z : State) (a0 : Array Value) (hw : ∀ d ∈ tables_1, d.before a0 Z = true) (ws : List Jvm.Cond) (a0_ : Addr) (h0 : Heap) (n0 : Nat) (Z0 : n0 ≤ h0.size) (O0 : Old Z n0 h0) :
    Met l Z ws (⟨"java/util/AbstractMap", "<init>", "()V"⟩ : MethodName) jdk_71_method_1_code 1 none (Rm 1 0 0 12) #[(.ref a0_)] h0 (Q2 Z a0_ h0 n0) := by
  refine Met.enter (L0 := #[.val (.ref a0_)]) (plainFor_of_name pn3) (fun m => ef2 m a0_) ?_
  intro p e s m below meth c s₁ hx hby hml hown hnm hret hlk hZ X0 e0
  have N0 := Fr.nil n0
  have K0 : Keep h0 h0 [] := Keep.refl h0 _
  refine Go.st (t' := s₁.setTop (mkF m 1 #[.val (.ref a0_)] [(.ref a0_)])) (fun target kt => ?_) ?_
  · refine XS.aloadN X0.here hx rfl (hb hby d2_0) rfl rfl ?_
    exact kt
  obtain ⟨T10, X10, e10, st10⟩ := initO X0 hx hZ hown (hw _ tw11) (hw _ tw12) (hw _ tw13) e0 (g := (mkF m 1 #[.val (.ref a0_)] [(.ref a0_)])) rfl (by rw [hml]; rfl) rfl (hb hby d2_1) (by decide) (W := 0) (by show 2 * 0 + _ ≤ _; exact Nat.le_of_eq rfl) (by decide)
  refine Go.st st10 ?_
  show Go _ _ _ _ _ _ _ (T10.setTop (mkF m 4 _ []))
  refine Go.ret X10 (v := none) (fun _ => rfl) hlk (fun fs hr => X10.returnOut hx hret (hb hby d2_4) hr) ?_ (by decide) (by decide)
  show Q2 Z a0_ h0 n0 _ T10.heap _
  rw [e10]
  exact ⟨rfl, N0, rfl⟩
theorem d1_0 : decode prog_14_method_1_code 0 = .ok (.aload_n 0, 1) := by decide +kernel
theorem d1_1 : decode prog_14_method_1_code 1 = .ok (.invokespecial 1, 3) := by decide +kernel
theorem tw6 : (Jvm.Cond.methodLink "com/example/graphweave/graphweave/json/JsonObject" (1 : Nat) ({ cls := "java/util/AbstractMap", name := "<init>", desc := "()V" } : Jvm.MethodName)) ∈ tables_1 := List.mem_of_getElem? (i := 6) rfl
theorem tw10 : (Jvm.Cond.code ({ cls := "java/util/AbstractMap", name := "<init>", desc := "()V" } : Jvm.MethodName) jdk_71_method_1_code (1 : Nat) (Option.none : Option Jvm.ClassFile.FieldType)) ∈ tables_1 := List.mem_of_getElem? (i := 10) rfl
theorem tw9 : (Jvm.Cond.initialized "java/util/AbstractMap") ∈ tables_1 := List.mem_of_getElem? (i := 9) rfl
theorem pd0 : parseMethodDescriptor "()V" = some ⟨[], none⟩ := by decide +kernel
theorem tw7 : (Jvm.Cond.instanceMethod ({ cls := "java/util/AbstractMap", name := "<init>", desc := "()V" } : Jvm.MethodName)) ∈ tables_1 := List.mem_of_getElem? (i := 7) rfl
theorem d1_4 : decode prog_14_method_1_code 4 = .ok (.aload_n 0, 1) := by decide +kernel
theorem d1_5 : decode prog_14_method_1_code 5 = .ok (.getstatic 7, 3) := by decide +kernel
theorem tw14 : (Jvm.Cond.fieldLink "com/example/graphweave/graphweave/json/JsonObject" (7 : Nat) "com/example/graphweave/graphweave/json/JsonObject" "NO_MEMBERS" "[Ljava/lang/Object;") ∈ tables_1 := List.mem_of_getElem? (i := 14) rfl
theorem d1_8 : decode prog_14_method_1_code 8 = .ok (.putfield 13, 3) := by decide +kernel
theorem tw16 : (Jvm.Cond.fieldLink "com/example/graphweave/graphweave/json/JsonObject" (13 : Nat) "com/example/graphweave/graphweave/json/JsonObject" "members" "[Ljava/lang/Object;") ∈ tables_1 := List.mem_of_getElem? (i := 16) rfl
theorem tw17 : (Jvm.Cond.lays "com/example/graphweave/graphweave/json/JsonObject" "com/example/graphweave/graphweave/json/JsonObject" "members" "[Ljava/lang/Object;") ∈ tables_1 := List.mem_of_getElem? (i := 17) rfl
theorem tw1 : (Jvm.Cond.instantiable "com/example/graphweave/graphweave/json/JsonObject" (6 : Nat)) ∈ tables_1 := List.mem_of_getElem? (i := 1) rfl
theorem d1_11 : decode prog_14_method_1_code 11 = .ok (.return_, 1) := by decide +kernel
theorem tw67 : (Jvm.Cond.lays "com/example/graphweave/graphweave/json/JsonObject" "com/example/graphweave/graphweave/json/JsonObject" "index" "[I") ∈ tables_1 := List.mem_of_getElem? (i := 67) rfl
theorem tw69 : (Jvm.Cond.lays "com/example/graphweave/graphweave/json/JsonObject" "com/example/graphweave/graphweave/json/JsonObject" "size" "I") ∈ tables_1 := List.mem_of_getElem? (i := 69) rfl
theorem tw104 : (Jvm.Cond.lays "com/example/graphweave/graphweave/json/JsonObject" "com/example/graphweave/graphweave/json/JsonObject" "changes" "I") ∈ tables_1 := List.mem_of_getElem? (i := 104) rfl
theorem ef1 (m : MethodId) (x0 : Addr) : entryFrame m #[(.ref x0)] 1 = mkF m 0 #[.val (.ref x0)] [] := by first | (simp [entryFrame, mkF, argsToLocals, Value.category]; done) | rfl
def Q1 (Z : State) (a0_ : Addr) (wn : Addr) (kn : ClassId) (h0 : Heap) (n0 : Nat) (v : Option Value) (h : Heap) (L : List Loc) : Prop := v = none ∧ Fr n0 L ∧ Keep h0 h [a0_] ∧ Exa Z h a0_ sq0 ∧ Fld Z h a0_ sq0 "members" sq3 (.ref wn) ∧ Fld Z h a0_ sq0 "index" "[I" .null ∧ Fld Z h a0_ sq0 "size" "I" (.int 0) ∧ Fld Z h a0_ sq0 "changes" "I" (.int 0)
theorem pn10 : plainName "com/example/graphweave/graphweave/json/JsonObject" = true := by first | (simp [plainName, overriddenIn]; done) | decide +kernel
theorem rm1 (l : Launch) (Z : State) (a0 : Array Value) (hw : ∀ d ∈ tables_1, d.before a0 Z = true) (ws : List Jvm.Cond) (a0_ : Addr) (wn : Addr) (kn : ClassId) (h0 : Heap) (n0 : Nat) (Z0 : n0 ≤ h0.size) (O0 : Old Z n0 h0) (S_NM : Sta Z Z.heap sq0 "NO_MEMBERS" sq3 (.ref wn)) (E_wn : Exa Z Z.heap wn sq3) (V_wn : Arv Z Z.heap wn kn (.object sq1) (0 : Int32) [] .null) (E0 : Exa Z h0 a0_ sq0) (g0 : n0 ≤ a0_) (F_m : Fld Z h0 a0_ sq0 "members" sq3 .null) (F_i : Fld Z h0 a0_ sq0 "index" "[I" .null) (F_s : Fld Z h0 a0_ sq0 "size" "I" (.int 0)) (F_c : Fld Z h0 a0_ sq0 "changes" "I" (.int 0)) :
    Met l Z ws (⟨sq0, "<init>", "()V"⟩ : MethodName) prog_14_method_1_code 1 none (Rm 2 0 0 24) #[(.ref a0_)] h0 (Q1 Z a0_ wn kn h0 n0) := by
  refine Met.enter (L0 := #[.val (.ref a0_)]) (plainFor_of_name pn10) (fun m => ef1 m a0_) ?_
  intro p e s m below meth c s₁ hx hby hml hown hnm hret hlk hZ X0 e0
  have N0 := Fr.nil n0
  have K0 : Keep h0 h0 [a0_] := Keep.refl h0 _
  refine Go.st (t' := s₁.setTop (mkF m 1 #[.val (.ref a0_)] [(.ref a0_)])) (fun target kt => ?_) ?_
  · refine XS.aloadN X0.here hx rfl (hb hby d1_0) rfl rfl ?_
    exact kt
  obtain ⟨_, _, ⟨T10, L10, k10, n10⟩, -, X10, ⟨Lc10, hQ10, l10, y10, z10⟩, st10⟩ := X0.specialBack hx (y := (⟨"java/util/AbstractMap", "<init>", "()V"⟩ : MethodName)) rfl hown (mvT hZ (hw _ tw6)) (mvT hZ (hw _ tw7)) (mvT hZ (hw _ tw10)) (by decide) (backOf (W := 0) (rm2 l Z a0 hw [] a0_ h0 n0 (Nat.le_trans Z0 K0.1) O0  ) hZ (hw _ tw10) (hw _ tw9) (by decide) (by decide)) (g := (mkF m 1 #[.val (.ref a0_)] [(.ref a0_)])) rfl (by rw [hml]; rfl) (Steps.refl _) (a := a0_) (argsL := []) (rest := []) (lenOf pd0 rfl) rfl (by show 2 * 0 + _ ≤ _; exact Nat.le_of_eq rfl) (hb hby d1_1) (fun _ _ => ⟨rfl, e0, (by decide : 0 + 0 ≤ _), (by decide : 0 + 0 ≤ _)⟩)
  dsimp only [Pt.U, Pt.locs, Pt.cells, Pt.slots] at X10 l10 y10 z10 st10 hQ10
  subst l10 y10 z10
  obtain ⟨rfl, Nq10, eq10⟩ := hQ10
  have N10 := Fr.app N0 Nq10
  refine Go.by st10 ?_
  show Go _ _ _ _ _ _ _ (T10.setTop (mkF m 4 _ []))
  refine Go.st (t' := T10.setTop (mkF m 5 #[.val (.ref a0_)] [(.ref a0_)])) (fun target kt => ?_) ?_
  · refine XS.aloadN X10.here hx rfl (hb hby d1_4) rfl rfl ?_
    exact kt
  obtain ⟨T11, X11, e11, st11⟩ := getS2 X10 hx hZ hown (host := "") (Or.inl (hw _ tw14)) Via.refl eq10 (S_NM.ext O0.2) (g := (mkF m 5 #[.val (.ref a0_)] [(.ref a0_)])) rfl (hb hby d1_5)
  refine Go.st st11 ?_
  show Go _ _ _ _ _ _ _ (T11.setTop (mkF m 8 _ [(.ref wn), (.ref a0_)]))
  obtain ⟨T12, h12, X12, e12, W12, st12⟩ := putF X11 hx hZ hown (host := "") (Or.inl (hw _ tw16)) Via.refl e11 F_m E0 (Or.inl (hw _ tw17)) (hw _ tw1) (ty := (.array (.object sq1))) (by decide) rfl rfl (g := (mkF m 8 #[.val (.ref a0_)] [(.ref wn), (.ref a0_)])) rfl rfl (hb hby d1_8)
  have F13 : Fld Z h12 a0_ sq0 "members" sq3 (.ref wn) := F_m.same W12
  have K14 := K0.wr W12 (Or.inl (List.mem_of_getElem? (i := 0) rfl))
  have O15 := O0.wr W12 g0
  have N12 := Fr.snoc X12 N10 g0
  refine Go.st st12 ?_
  show Go _ _ _ _ _ _ _ (T12.setTop (mkF m 11 _ []))
  have c16 := E0.wr W12
  have c17 := F_i.other W12 (Or.inr (slot_ne (Or.inl (hw _ tw67)) (Or.inl (hw _ tw17)) (by decide) (t := (.array .int)) (t' := (.array (.object sq1))) (by decide) (by decide)))
  have c18 := F_s.other W12 (Or.inr (slot_ne (Or.inl (hw _ tw69)) (Or.inl (hw _ tw17)) (by decide) (t := .int) (t' := (.array (.object sq1))) (by decide) (by decide)))
  have c19 := F_c.other W12 (Or.inr (slot_ne (Or.inl (hw _ tw104)) (Or.inl (hw _ tw17)) (by decide) (t := .int) (t' := (.array (.object sq1))) (by decide) (by decide)))
  refine Go.ret X12 (v := none) (fun _ => rfl) hlk (fun fs hr => X12.returnOut hx hret (hb hby d1_11) hr) ?_ (by decide) (by decide)
  show Q1 Z a0_ wn kn h0 n0 _ T12.heap _
  rw [e12]
  exact ⟨rfl, N12, K14, c16, F13, c17, c18, c19⟩
theorem d5_0 : decode jdk_43_method_3_code 0 = .ok (.iload_n 0, 1) := by decide +kernel
theorem d5_1 : decode jdk_43_method_3_code 1 = .ok (.sipush 255, 3) := by decide +kernel
theorem d5_4 : decode jdk_43_method_3_code 4 = .ok (.if_icmp .gt 7, 3) := by decide +kernel
theorem d5_7 : decode jdk_43_method_3_code 7 = .ok (.iconst 1, 1) := by decide +kernel
theorem d5_8 : decode jdk_43_method_3_code 8 = .ok (.goto 4, 3) := by decide +kernel
theorem d5_12 : decode jdk_43_method_3_code 12 = .ok (.ireturn, 1) := by decide +kernel
theorem ef5 (m : MethodId) (x0 : Int32) : entryFrame m #[(.int x0)] 1 = mkF m 0 #[.val (.int x0)] [] := by first | (simp [entryFrame, mkF, argsToLocals, Value.category]; done) | rfl
def Q5 (Z : State) (p0 : Int32) (h0 : Heap) (n0 : Nat) (v : Option Value) (h : Heap) (L : List Loc) : Prop := v = some (.int 1) ∧ Fr n0 L ∧ h = h0
theorem pn17 : plainName "java/lang/StringLatin1" = true := by first | (simp [plainName, overriddenIn]; done) | decide +kernel
theorem rm5 (l : Launch) (Z : State) (a0 : Array Value) (hw : ∀ d ∈ tables_1, d.before a0 Z = true) (ws : List Jvm.Cond) (p0 : Int32) (h0 : Heap) (n0 : Nat) (Z0 : n0 ≤ h0.size) (O0 : Old Z n0 h0) (hcd0 : ¬ ((255 : Int32) < p0)) :
    Met l Z ws (⟨"java/lang/StringLatin1", "canEncode", "(C)Z"⟩ : MethodName) jdk_43_method_3_code 1 (some .boolean) (Rm 0 0 0 0) #[(.int p0)] h0 (Q5 Z p0 h0 n0) := by
  refine Met.enter (L0 := #[.val (.int p0)]) (plainFor_of_name pn17) (fun m => ef5 m p0) ?_
  intro p e s m below meth c s₁ hx hby hml hown hnm hret hlk hZ X0 e0
  have N0 := Fr.nil n0
  have K0 : Keep h0 h0 [] := Keep.refl h0 _
  refine Go.st (t' := s₁.setTop (mkF m 12 #[.val (.int p0)] [(.int 1)])) (fun target kt => ?_) ?_
  · refine XS.iloadN X0.here hx rfl (hb hby d5_0) rfl ?_
    refine XS.sipush X0.here hx rfl (hb hby d5_1) ?_
    refine XS.icmpNo X0.here hx rfl (hb hby d5_4) rfl (flt hcd0).2.2.1 ?_
    refine XS.iconst X0.here hx rfl (hb hby d5_7) ?_
    refine XS.goto X0.here hx rfl (pc0 := 8) (pc' := 12) rfl (hb hby d5_8) (by decide) (by decide) ?_
    exact kt
  refine Go.ret X0 (v := some (.int 1)) (fun h => by rw [hret] at h; cases h) hlk (fun fs hr => retN X0 hx (t := .boolean) hret (by simp) (hb hby d5_12) hr) ?_ (by decide) (by decide)
  show Q5 Z p0 h0 n0 _ s₁.heap _
  rw [e0]
  exact ⟨rfl, N0, rfl⟩
theorem d6_0 : decode jdk_43_method_46_code 0 = .ok (.iconst 1, 1) := by decide +kernel
theorem d6_1 : decode jdk_43_method_46_code 1 = .ok (.newarray .byte, 2) := by decide +kernel
theorem d6_3 : decode jdk_43_method_46_code 3 = .ok (.dup, 1) := by decide +kernel
theorem d6_4 : decode jdk_43_method_46_code 4 = .ok (.iconst 0, 1) := by decide +kernel
theorem d6_5 : decode jdk_43_method_46_code 5 = .ok (.iload_n 0, 1) := by decide +kernel
theorem d6_6 : decode jdk_43_method_46_code 6 = .ok (.i2b, 1) := by decide +kernel
theorem d6_7 : decode jdk_43_method_46_code 7 = .ok (.bastore, 1) := by decide +kernel
theorem d6_8 : decode jdk_43_method_46_code 8 = .ok (.areturn, 1) := by decide +kernel
theorem ef6 (m : MethodId) (x0 : Int32) : entryFrame m #[(.int x0)] 1 = mkF m 0 #[.val (.int x0)] [] := by first | (simp [entryFrame, mkF, argsToLocals, Value.category]; done) | rfl
def Q6 (Z : State) (p0 : Int32) (h0 : Heap) (n0 : Nat) (v : Option Value) (h : Heap) (L : List Loc) : Prop := ∃ (b : Addr) (k : ClassId) (x : Int32), v = some (.ref b) ∧ Fr n0 L ∧ Keep h0 h [] ∧ h0.size ≤ b ∧ Arv Z h b k .byte (1 : Int32) [(.int x)] (.int 0)
theorem rm6 (l : Launch) (Z : State) (a0 : Array Value) (hw : ∀ d ∈ tables_1, d.before a0 Z = true) (ws : List Jvm.Cond) (p0 : Int32) (h0 : Heap) (n0 : Nat) (Z0 : n0 ≤ h0.size) (O0 : Old Z n0 h0) :
    Met l Z ws (⟨"java/lang/StringLatin1", "toBytes", "(C)[B"⟩ : MethodName) jdk_43_method_46_code 1 (some (.array .byte)) (Rm 0 1 1 0) #[(.int p0)] h0 (Q6 Z p0 h0 n0) := by
  refine Met.enter (L0 := #[.val (.int p0)]) (plainFor_of_name pn17) (fun m => ef6 m p0) ?_
  intro p e s m below meth c s₁ hx hby hml hown hnm hret hlk hZ X0 e0
  have N0 := Fr.nil n0
  have K0 : Keep h0 h0 [] := Keep.refl h0 _
  refine Go.st (t' := s₁.setTop (mkF m 1 #[.val (.int p0)] [(.int 1)])) (fun target kt => ?_) ?_
  · refine XS.iconst X0.here hx rfl (hb hby d6_0) ?_
    exact kt
  obtain ⟨T10, h10, k10, X10, e10, E10, A10, B10, st10⟩ := newPE (aty := .byte) X0 hx hZ (hw _ tw32) e0 (g := (mkF m 1 #[.val (.int p0)] [(.int 1)])) rfl (hb hby d6_1) rfl (by decide) (cap := 1) (by decide) (by decide) (by decide) (by decide) (ad := "[B") (by decide)
  obtain ⟨b10, g10⟩ : ∃ z, z = h0.size := ⟨_, rfl⟩
  rw [← g10] at A10 B10 st10
  have lb11 : h0.size ≤ b10 := Nat.le_of_eq g10.symm
  have sz12 : h0.size ≤ b10 := Nat.le_trans K0.1 lb11
  have g13 : n0 ≤ b10 := Nat.le_trans Z0 sz12
  have K14 := K0.ext E10
  have O15 := O0.ext E10
  have V16 : Arv Z h10 b10 k10 .byte (1 : Int32) [(.int 0)] (.int 0) := (Arv.new A10 (by decide)).pad (pad_rep [] (.int 0) 1)
  refine Go.st st10 ?_
  show Go _ _ _ _ _ _ _ (T10.setTop (mkF m 3 _ [(.ref b10)]))
  refine Go.st (t' := T10.setTop (mkF m 7 #[.val (.int p0)] [(.int (p0.toInt8.toInt32)), (.int 0), (.ref b10), (.ref b10)])) (fun target kt => ?_) ?_
  · refine XS.dup X10.here hx rfl (hb hby d6_3) rfl rfl ?_
    refine XS.iconst X10.here hx rfl (hb hby d6_4) ?_
    refine XS.iloadN X10.here hx rfl (hb hby d6_5) rfl ?_
    refine XS.i2b X10.here hx rfl (hb hby d6_6) rfl ?_
    exact kt
  obtain ⟨cl17, Ar17, q17, S17, M17, H17, G17⟩ := id V16
  have hin17 : ¬ ((0 : Int32) < 0 ∨ cl17.slots.size ≤ ((0 : Int32)).toNatClampNeg) := inb_of S17 ⟨by decide, by decide⟩
  obtain ⟨T17, h17, X17, e17, W17, st17⟩ := stB X10 hx hZ e10 Ar17 (j := (0 : Int32)) hin17 (g := (mkF m 7 #[.val (.int p0)] [(.int (p0.toInt8.toInt32)), (.int 0), (.ref b10), (.ref b10)])) rfl rfl (hb hby d6_7)
  have V18 : Arv Z h17 b10 k10 .byte (1 : Int32) [(.int (nar .byte (p0.toInt8.toInt32)))] (.int 0) := Arv.set Ar17 q17 S17 M17 H17 G17 (fits_nar_byte _) W17 0 rfl (Nat.le_of_ble_eq_true rfl)
  have K19 := K14.wr W17 (Or.inr sz12)
  have O20 := O15.wr W17 g13
  have N17 := Fr.snoc X17 N0 g13
  refine Go.st st17 ?_
  show Go _ _ _ _ _ _ _ (T17.setTop (mkF m 8 _ [(.ref b10)]))
  refine Go.ret X17 (v := some (.ref b10)) (fun h => by rw [hret] at h; cases h) hlk (fun fs hr => retR X17 hx hret rfl rfl (hb hby d6_8) hr) ?_ (by decide) (by decide)
  show Q6 Z p0 h0 n0 _ T17.heap _
  rw [e17]
  exact ⟨b10, k10, (nar .byte (p0.toInt8.toInt32)), rfl, N17, K19, sz12, V18⟩
theorem d7_0 : decode jdk_42_method_151_code 0 = .ok (.aload_n 0, 1) := by decide +kernel
theorem d7_1 : decode jdk_42_method_151_code 1 = .ok (.invokespecial 1, 3) := by decide +kernel
theorem tw37 : (Jvm.Cond.methodLink "java/lang/String" (1 : Nat) ({ cls := "java/lang/Object", name := "<init>", desc := "()V" } : Jvm.MethodName)) ∈ tables_1 := List.mem_of_getElem? (i := 37) rfl
theorem d7_4 : decode jdk_42_method_151_code 4 = .ok (.aload_n 0, 1) := by decide +kernel
theorem d7_5 : decode jdk_42_method_151_code 5 = .ok (.aload_n 1, 1) := by decide +kernel
theorem d7_6 : decode jdk_42_method_151_code 6 = .ok (.putfield 9, 3) := by decide +kernel
theorem tw38 : (Jvm.Cond.fieldLink "java/lang/String" (9 : Nat) "java/lang/String" "value" "[B") ∈ tables_1 := List.mem_of_getElem? (i := 38) rfl
theorem d7_9 : decode jdk_42_method_151_code 9 = .ok (.aload_n 0, 1) := by decide +kernel
theorem d7_10 : decode jdk_42_method_151_code 10 = .ok (.iload_n 2, 1) := by decide +kernel
theorem d7_11 : decode jdk_42_method_151_code 11 = .ok (.putfield 15, 3) := by decide +kernel
theorem tw40 : (Jvm.Cond.fieldLink "java/lang/String" (15 : Nat) "java/lang/String" "coder" "B") ∈ tables_1 := List.mem_of_getElem? (i := 40) rfl
theorem d7_14 : decode jdk_42_method_151_code 14 = .ok (.return_, 1) := by decide +kernel
theorem ef7 (m : MethodId) (x0 : Addr) (x1 : Addr) : entryFrame m #[(.ref x0), (.ref x1), (.int 0)] 3 = mkF m 0 #[.val (.ref x0), .val (.ref x1), .val (.int 0)] [] := by first | (simp [entryFrame, mkF, argsToLocals, Value.category]; done) | rfl
def Q7 (Z : State) (a0_ : Addr) (a1_ : Addr) (h0 : Heap) (n0 : Nat) (v : Option Value) (h : Heap) (L : List Loc) : Prop := v = none ∧ Fr n0 L ∧ Keep h0 h [a0_] ∧ Exa Z h a0_ sq2 ∧ Fld Z h a0_ sq2 "value" "[B" (.ref a1_) ∧ Fld Z h a0_ sq2 "coder" "B" (.int 0)
theorem pn35 : plainName "java/lang/String" = true := by first | (simp [plainName, overriddenIn]; done) | decide +kernel
theorem rm7 (l : Launch) (Z : State) (a0 : Array Value) (hw : ∀ d ∈ tables_1, d.before a0 Z = true) (ws : List Jvm.Cond) (a0_ : Addr) (a1_ : Addr) (h0 : Heap) (n0 : Nat) (Z0 : n0 ≤ h0.size) (O0 : Old Z n0 h0) (E0 : Exa Z h0 a0_ sq2) (g0 : n0 ≤ a0_) (Fv : Fld Z h0 a0_ sq2 "value" "[B" .null) (Fc : Fld Z h0 a0_ sq2 "coder" "B" (.int 0)) :
    Met l Z ws (⟨sq2, "<init>", "([BB)V"⟩ : MethodName) jdk_42_method_151_code 3 none (Rm 1 0 0 12) #[(.ref a0_), (.ref a1_), (.int 0)] h0 (Q7 Z a0_ a1_ h0 n0) := by
  refine Met.enter (L0 := #[.val (.ref a0_), .val (.ref a1_), .val (.int 0)]) (plainFor_of_name pn35) (fun m => ef7 m a0_ a1_) ?_
  intro p e s m below meth c s₁ hx hby hml hown hnm hret hlk hZ X0 e0
  have N0 := Fr.nil n0
  have K0 : Keep h0 h0 [a0_] := Keep.refl h0 _
  refine Go.st (t' := s₁.setTop (mkF m 1 #[.val (.ref a0_), .val (.ref a1_), .val (.int 0)] [(.ref a0_)])) (fun target kt => ?_) ?_
  · refine XS.aloadN X0.here hx rfl (hb hby d7_0) rfl rfl ?_
    exact kt
  obtain ⟨T10, X10, e10, st10⟩ := initO X0 hx hZ hown (hw _ tw37) (hw _ tw12) (hw _ tw13) e0 (g := (mkF m 1 #[.val (.ref a0_), .val (.ref a1_), .val (.int 0)] [(.ref a0_)])) rfl (by rw [hml]; rfl) rfl (hb hby d7_1) (by decide) (W := 0) (by show 2 * 0 + _ ≤ _; exact Nat.le_of_eq rfl) (by decide)
  refine Go.st st10 ?_
  show Go _ _ _ _ _ _ _ (T10.setTop (mkF m 4 _ []))
  refine Go.st (t' := T10.setTop (mkF m 6 #[.val (.ref a0_), .val (.ref a1_), .val (.int 0)] [(.ref a1_), (.ref a0_)])) (fun target kt => ?_) ?_
  · refine XS.aloadN X10.here hx rfl (hb hby d7_4) rfl rfl ?_
    refine XS.aloadN X10.here hx rfl (hb hby d7_5) rfl rfl ?_
    exact kt
  obtain ⟨T11, h11, X11, e11, W11, st11⟩ := putF X10 hx hZ hown (host := "") (Or.inl (hw _ tw38)) Via.refl e10 Fv E0 (Or.inr ⟨(hw _ tw39), rfl, hnm⟩) (hw _ tw28) (ty := (.array .byte)) (by decide) rfl rfl (g := (mkF m 6 #[.val (.ref a0_), .val (.ref a1_), .val (.int 0)] [(.ref a1_), (.ref a0_)])) rfl rfl (hb hby d7_6)
  have F12 : Fld Z h11 a0_ sq2 "value" "[B" (.ref a1_) := Fv.same W11
  have K13 := K0.wr W11 (Or.inl (List.mem_of_getElem? (i := 0) rfl))
  have O14 := O0.wr W11 g0
  have N11 := Fr.snoc X11 N0 g0
  refine Go.st st11 ?_
  show Go _ _ _ _ _ _ _ (T11.setTop (mkF m 9 _ []))
  refine Go.st (t' := T11.setTop (mkF m 11 #[.val (.ref a0_), .val (.ref a1_), .val (.int 0)] [(.int 0), (.ref a0_)])) (fun target kt => ?_) ?_
  · refine XS.aloadN X11.here hx rfl (hb hby d7_9) rfl rfl ?_
    refine XS.iloadN X11.here hx rfl (hb hby d7_10) rfl ?_
    exact kt
  have c15 := Fc.other W11 (Or.inr (slot_ne (Or.inr (hw _ tw41)) (Or.inr (hw _ tw39)) (by decide) (t := .byte) (t' := (.array .byte)) (by decide) (by decide)))
  have c16 := E0.wr W11
  obtain ⟨T17, h17, X17, e17, W17, st17⟩ := putFN X11 hx hZ hown (hw _ tw40) Via.refl e11 c15 c16 (Or.inr ⟨(hw _ tw41), rfl, hnm⟩) (hw _ tw28) (ty := .byte) (v' := (.int 0)) (by decide) rfl (by decide) (g := (mkF m 11 #[.val (.ref a0_), .val (.ref a1_), .val (.int 0)] [(.int 0), (.ref a0_)])) rfl rfl (hb hby d7_11)
  have F18 : Fld Z h17 a0_ sq2 "coder" "B" (.int 0) := c15.same W17
  have K19 := K13.wr W17 (Or.inl (List.mem_of_getElem? (i := 0) rfl))
  have O20 := O14.wr W17 g0
  have N17 := Fr.snoc X17 N11 g0
  refine Go.st st17 ?_
  show Go _ _ _ _ _ _ _ (T17.setTop (mkF m 14 _ []))
  have c21 := c16.wr W17
  have c22 := F12.other W17 (Or.inr (slot_ne (Or.inr (hw _ tw39)) (Or.inr (hw _ tw41)) (by decide) (t := (.array .byte)) (t' := .byte) (by decide) (by decide)))
  refine Go.ret X17 (v := none) (fun _ => rfl) hlk (fun fs hr => X17.returnOut hx hret (hb hby d7_14) hr) ?_ (by decide) (by decide)
  show Q7 Z a0_ a1_ h0 n0 _ T17.heap _
  rw [e17]
  exact ⟨rfl, N17, K19, c21, c22, F18⟩
theorem d4_0 : decode jdk_42_method_139_code 0 = .ok (.getstatic 38, 3) := by decide +kernel
theorem tw22 : (Jvm.Cond.fieldLink "java/lang/String" (38 : Nat) "java/lang/String" "COMPACT_STRINGS" "Z") ∈ tables_1 := List.mem_of_getElem? (i := 22) rfl
theorem d4_3 : decode jdk_42_method_139_code 3 = .ok (.ifCond .eq 23, 3) := by decide +kernel
theorem d4_6 : decode jdk_42_method_139_code 6 = .ok (.iload_n 0, 1) := by decide +kernel
theorem d4_7 : decode jdk_42_method_139_code 7 = .ok (.invokestatic 1015, 3) := by decide +kernel
theorem tw23 : (Jvm.Cond.methodLink "java/lang/String" (1015 : Nat) ({ cls := "java/lang/StringLatin1", name := "canEncode", desc := "(C)Z" } : Jvm.MethodName)) ∈ tables_1 := List.mem_of_getElem? (i := 23) rfl
theorem tw26 : (Jvm.Cond.code ({ cls := "java/lang/StringLatin1", name := "canEncode", desc := "(C)Z" } : Jvm.MethodName) jdk_43_method_3_code (1 : Nat) (Option.some Jvm.ClassFile.FieldType.boolean)) ∈ tables_1 := List.mem_of_getElem? (i := 26) rfl
theorem tw25 : (Jvm.Cond.initialized "java/lang/StringLatin1") ∈ tables_1 := List.mem_of_getElem? (i := 25) rfl
theorem pd1 : parseMethodDescriptor "(C)Z" = some ⟨[.char], some .boolean⟩ := by decide +kernel
theorem tw24 : (Jvm.Cond.static ({ cls := "java/lang/StringLatin1", name := "canEncode", desc := "(C)Z" } : Jvm.MethodName)) ∈ tables_1 := List.mem_of_getElem? (i := 24) rfl
theorem d4_10 : decode jdk_42_method_139_code 10 = .ok (.ifCond .eq 16, 3) := by decide +kernel
theorem d4_13 : decode jdk_42_method_139_code 13 = .ok (.new 10, 3) := by decide +kernel
theorem tw27 : (Jvm.Cond.classLink "java/lang/String" (10 : Nat) "java/lang/String") ∈ tables_1 := List.mem_of_getElem? (i := 27) rfl
theorem d4_16 : decode jdk_42_method_139_code 16 = .ok (.dup, 1) := by decide +kernel
theorem d4_17 : decode jdk_42_method_139_code 17 = .ok (.iload_n 0, 1) := by decide +kernel
theorem d4_18 : decode jdk_42_method_139_code 18 = .ok (.invokestatic 1018, 3) := by decide +kernel
theorem tw29 : (Jvm.Cond.methodLink "java/lang/String" (1018 : Nat) ({ cls := "java/lang/StringLatin1", name := "toBytes", desc := "(C)[B" } : Jvm.MethodName)) ∈ tables_1 := List.mem_of_getElem? (i := 29) rfl
theorem tw31 : (Jvm.Cond.code ({ cls := "java/lang/StringLatin1", name := "toBytes", desc := "(C)[B" } : Jvm.MethodName) jdk_43_method_46_code (1 : Nat) (Option.some (Jvm.ClassFile.FieldType.array Jvm.ClassFile.FieldType.byte))) ∈ tables_1 := List.mem_of_getElem? (i := 31) rfl
theorem pd2 : parseMethodDescriptor "(C)[B" = some ⟨[.char], some (.array .byte)⟩ := by decide +kernel
theorem tw30 : (Jvm.Cond.static ({ cls := "java/lang/StringLatin1", name := "toBytes", desc := "(C)[B" } : Jvm.MethodName)) ∈ tables_1 := List.mem_of_getElem? (i := 30) rfl
theorem d4_21 : decode jdk_42_method_139_code 21 = .ok (.iconst 0, 1) := by decide +kernel
theorem d4_22 : decode jdk_42_method_139_code 22 = .ok (.invokespecial 209, 3) := by decide +kernel
theorem tw33 : (Jvm.Cond.methodLink "java/lang/String" (209 : Nat) ({ cls := "java/lang/String", name := "<init>", desc := "([BB)V" } : Jvm.MethodName)) ∈ tables_1 := List.mem_of_getElem? (i := 33) rfl
theorem tw36 : (Jvm.Cond.code ({ cls := "java/lang/String", name := "<init>", desc := "([BB)V" } : Jvm.MethodName) jdk_42_method_151_code (3 : Nat) (Option.none : Option Jvm.ClassFile.FieldType)) ∈ tables_1 := List.mem_of_getElem? (i := 36) rfl
theorem pd3 : parseMethodDescriptor "([BB)V" = some ⟨[(.array .byte), .byte], none⟩ := by decide +kernel
theorem tw34 : (Jvm.Cond.instanceMethod ({ cls := "java/lang/String", name := "<init>", desc := "([BB)V" } : Jvm.MethodName)) ∈ tables_1 := List.mem_of_getElem? (i := 34) rfl
theorem d4_25 : decode jdk_42_method_139_code 25 = .ok (.areturn, 1) := by decide +kernel
theorem ef4 (m : MethodId) (x0 : Int32) : entryFrame m #[(.int x0)] 1 = mkF m 0 #[.val (.int x0)] [] := by first | (simp [entryFrame, mkF, argsToLocals, Value.category]; done) | rfl
def Q4 (Z : State) (p0 : Int32) (wcs : Int32) (h0 : Heap) (n0 : Nat) (v : Option Value) (h : Heap) (L : List Loc) : Prop := ∃ (b : Addr) (bv : Addr) (k : ClassId) (x : Int32), v = some (.ref b) ∧ Fr n0 L ∧ Keep h0 h [] ∧ h0.size ≤ b ∧ h0.size ≤ bv ∧ Exa Z h b sq2 ∧ Fld Z h b sq2 "value" "[B" (.ref bv) ∧ Fld Z h b sq2 "coder" "B" (.int 0) ∧ Arv Z h bv k .byte (1 : Int32) [(.int x)] (.int 0)
theorem rm4 (l : Launch) (Z : State) (a0 : Array Value) (hw : ∀ d ∈ tables_1, d.before a0 Z = true) (ws : List Jvm.Cond) (p0 : Int32) (wcs : Int32) (h0 : Heap) (n0 : Nat) (Z0 : n0 ≤ h0.size) (O0 : Old Z n0 h0) (S_CS : Sta Z Z.heap sq2 "COMPACT_STRINGS" "Z" (.int wcs)) (hcs : ¬ (wcs = (0 : Int32))) (hcd0 : ¬ ((255 : Int32) < p0)) :
    Met l Z ws (⟨sq2, "valueOf", "(C)Ljava/lang/String;"⟩ : MethodName) jdk_42_method_139_code 1 (some (.object sq2)) (Rm 2 2 5 27) #[(.int p0)] h0 (Q4 Z p0 wcs h0 n0) := by
  refine Met.enter (L0 := #[.val (.int p0)]) (plainFor_of_name pn35) (fun m => ef4 m p0) ?_
  intro p e s m below meth c s₁ hx hby hml hown hnm hret hlk hZ X0 e0
  have N0 := Fr.nil n0
  have K0 : Keep h0 h0 [] := Keep.refl h0 _
  obtain ⟨T10, X10, e10, st10⟩ := getS2 X0 hx hZ hown (host := "") (Or.inl (hw _ tw22)) Via.refl e0 (S_CS.ext O0.2) (g := (mkF m 0 #[.val (.int p0)] [])) rfl (hb hby d4_0)
  refine Go.st st10 ?_
  show Go _ _ _ _ _ _ _ (T10.setTop (mkF m 3 _ [(.int wcs)]))
  refine Go.st (t' := T10.setTop (mkF m 7 #[.val (.int p0)] [(.int p0)])) (fun target kt => ?_) ?_
  · refine XS.ifNo X10.here hx rfl (hb hby d4_3) rfl ((if0 _ _).trans (feq hcs).1) ?_
    refine XS.iloadN X10.here hx rfl (hb hby d4_6) rfl ?_
    exact kt
  obtain ⟨_, _, ⟨T11, L11, k11, n11⟩, -, X11, ⟨Lc11, hQ11, l11, y11, z11⟩, st11⟩ := Jvm.LawKit.callS X10 hx (y := (⟨"java/lang/StringLatin1", "canEncode", "(C)Z"⟩ : MethodName)) hown (mvT hZ (hw _ tw23)) (mvT hZ (hw _ tw24)) (mvT hZ (hw _ tw25)) (mvT hZ (hw _ tw26)) (by decide) (backOf (W := 0) (rm5 l Z a0 hw [] p0 h0 n0 (Nat.le_trans Z0 K0.1) O0  hcd0) hZ (hw _ tw26) (hw _ tw25) (by decide) (by decide)) (g := (mkF m 7 #[.val (.int p0)] [(.int p0)])) rfl (by rw [hml]; rfl) (argsL := [(.int p0)]) (rest := []) (lenOf pd1 rfl) rfl (by show 2 * 0 + _ ≤ _; exact Nat.le_of_eq rfl) (hb hby d4_7) (fun _ _ => ⟨rfl, e10, (by decide : 0 + 0 ≤ _), (by decide : 0 + 0 ≤ _)⟩)
  dsimp only [Pt.U, Pt.locs, Pt.cells, Pt.slots] at X11 l11 y11 z11 st11 hQ11
  subst l11 y11 z11
  obtain ⟨rfl, Nq11, eq11⟩ := hQ11
  have N11 := Fr.app N0 Nq11
  refine Go.st st11 ?_
  show Go _ _ _ _ _ _ _ (T11.setTop (mkF m 10 _ [(.int 1)]))
  refine Go.st (t' := T11.setTop (mkF m 13 #[.val (.int p0)] [])) (fun target kt => ?_) ?_
  · refine XS.ifNo X11.here hx rfl (hb hby d4_10) rfl ((if0 _ _).trans (feq (by decide : ¬ ((1 : Int32) = (0 : Int32)))).1) ?_
    exact kt
  obtain ⟨T12, h12, X12, e12, E12, A12, D12, -, st12⟩ := newO X11 hx hZ hown (hw _ tw27) (hw _ tw28) (hw _ tw20) eq11 (g := (mkF m 13 #[.val (.int p0)] [])) rfl (hb hby d4_13) (by decide) (by decide)
  obtain ⟨b12, g12⟩ : ∃ z, z = h0.size := ⟨_, rfl⟩
  rw [← g12] at A12 D12 st12
  have lb13 : h0.size ≤ b12 := Nat.le_of_eq g12.symm
  have sz14 : h0.size ≤ b12 := Nat.le_trans K0.1 lb13
  have g15 : n0 ≤ b12 := Nat.le_trans Z0 sz14
  have K16 := K0.ext E12
  have O17 := O0.ext E12
  have F18 : Fld Z h12 b12 sq2 "value" "[B" .null := D12 (Or.inr (hw _ tw39)) (ty := (.array .byte)) (by decide)
  have F19 : Fld Z h12 b12 sq2 "coder" "B" (.int 0) := D12 (Or.inr (hw _ tw41)) (ty := .byte) (by decide)
  refine Go.st st12 ?_
  show Go _ _ _ _ _ _ _ (T12.setTop (mkF m 16 _ [(.ref b12)]))
  refine Go.st (t' := T12.setTop (mkF m 18 #[.val (.int p0)] [(.int p0), (.ref b12), (.ref b12)])) (fun target kt => ?_) ?_
  · refine XS.dup X12.here hx rfl (hb hby d4_16) rfl rfl ?_
    refine XS.iloadN X12.here hx rfl (hb hby d4_17) rfl ?_
    exact kt
  obtain ⟨_, _, ⟨T20, L20, k20, n20⟩, -, X20, ⟨Lc20, hQ20, l20, y20, z20⟩, st20⟩ := Jvm.LawKit.callS X12 hx (y := (⟨"java/lang/StringLatin1", "toBytes", "(C)[B"⟩ : MethodName)) hown (mvT hZ (hw _ tw29)) (mvT hZ (hw _ tw30)) (mvT hZ (hw _ tw25)) (mvT hZ (hw _ tw31)) (by decide) (backOf (W := 2) (rm6 l Z a0 hw [] p0 h12 n0 (Nat.le_trans Z0 K16.1) O17  ) hZ (hw _ tw31) (hw _ tw25) (by decide) (by decide)) (g := (mkF m 18 #[.val (.int p0)] [(.int p0), (.ref b12), (.ref b12)])) rfl (by rw [hml]; rfl) (argsL := [(.int p0)]) (rest := [(.ref b12), (.ref b12)]) (lenOf pd2 rfl) rfl (by show 2 * 0 + _ ≤ _; exact Nat.le_of_eq rfl) (hb hby d4_18) (fun _ _ => ⟨rfl, e12, (by decide : 1 + 1 ≤ _), (by decide : 4 + 1 ≤ _)⟩)
  dsimp only [Pt.U, Pt.locs, Pt.cells, Pt.slots] at X20 l20 y20 z20 st20 hQ20
  subst l20 y20 z20
  obtain ⟨b21, k22, i23, rfl, Nq20, Kq20, q24, q25⟩ := hQ20
  have N20 := Fr.app N11 Nq20
  have sz26 : h0.size ≤ b21 := Nat.le_trans K16.1 q24
  have g27 : n0 ≤ b21 := Nat.le_trans Z0 sz26
  have K28 := K16.trans Kq20 all0
  have O29 := O17.keep Kq20 all0
  refine Go.st st20 ?_
  show Go _ _ _ _ _ _ _ (T20.setTop (mkF m 21 _ [(.ref b21), (.ref b12), (.ref b12)]))
  refine Go.st (t' := T20.setTop (mkF m 22 #[.val (.int p0)] [(.int 0), (.ref b21), (.ref b12), (.ref b12)])) (fun target kt => ?_) ?_
  · refine XS.iconst X20.here hx rfl (hb hby d4_21) ?_
    exact kt
  have c30 := A12.keep Kq20
  have c31 := F18.keep Kq20 nin0
  have c32 := F19.keep Kq20 nin0
  obtain ⟨_, _, ⟨T33, L33, k33, n33⟩, -, X33, ⟨Lc33, hQ33, l33, y33, z33⟩, st33⟩ := X20.specialBack hx (y := (⟨sq2, "<init>", "([BB)V"⟩ : MethodName)) rfl hown (mvT hZ (hw _ tw33)) (mvT hZ (hw _ tw34)) (mvT hZ (hw _ tw36)) (by decide) (backOf (W := 1) (rm7 l Z a0 hw [] b12 b21 T20.heap n0 (Nat.le_trans Z0 K28.1) O29  c30 g15 c31 c32) hZ (hw _ tw36) (hw _ tw20) (by decide) (by decide)) (g := (mkF m 22 #[.val (.int p0)] [(.int 0), (.ref b21), (.ref b12), (.ref b12)])) rfl (by rw [hml]; rfl) (Steps.refl _) (a := b12) (argsL := [(.ref b21), (.int 0)]) (rest := [(.ref b12)]) (lenOf pd3 rfl) rfl (by show 2 * 0 + _ ≤ _; exact Nat.le_of_eq rfl) (hb hby d4_22) (fun _ _ => ⟨rfl, rfl, (by decide : 2 + 0 ≤ _), (by decide : 5 + 0 ≤ _)⟩)
  dsimp only [Pt.U, Pt.locs, Pt.cells, Pt.slots] at X33 l33 y33 z33 st33 hQ33
  subst l33 y33 z33
  obtain ⟨rfl, Nq33, Kq33, q34, q35, q36⟩ := hQ33
  have N33 := Fr.app N20 Nq33
  have K37 := K28.trans Kq33 (allS (Or.inr sz14) all0)
  have O38 := O29.keep Kq33 (allS g15 all0)
  refine Go.by st33 ?_
  show Go _ _ _ _ _ _ _ (T33.setTop (mkF m 25 _ [(.ref b12)]))
  have o39 : b12 < b21 := Nat.lt_of_lt_of_le A12.lt q24
  have ne40 : b12 ≠ b21 := Nat.ne_of_lt o39
  have c41 := q25.keep Kq33 (ninS (Ne.symm ne40) nin0)
  refine Go.ret X33 (v := some (.ref b12)) (fun h => by rw [hret] at h; cases h) hlk (fun fs hr => retR X33 hx hret rfl rfl (hb hby d4_25) hr) ?_ (by decide) (by decide)
  show Q4 Z p0 wcs h0 n0 _ T33.heap _
  exact ⟨b12, b21, k22, i23, rfl, N33, K37, sz14, (by first | assumption | decide | omega), q34, q35, q36, c41⟩
theorem d26_0 : decode jdk_18_method_1_code 0 = .ok (.aload_n 0, 1) := by decide +kernel
theorem d26_1 : decode jdk_18_method_1_code 1 = .ok (.invokespecial 1, 3) := by decide +kernel
theorem tw152 : (Jvm.Cond.methodLink "java/lang/Number" (1 : Nat) ({ cls := "java/lang/Object", name := "<init>", desc := "()V" } : Jvm.MethodName)) ∈ tables_1 := List.mem_of_getElem? (i := 152) rfl
theorem d26_4 : decode jdk_18_method_1_code 4 = .ok (.return_, 1) := by decide +kernel
theorem ef26 (m : MethodId) (x0 : Addr) : entryFrame m #[(.ref x0)] 1 = mkF m 0 #[.val (.ref x0)] [] := by first | (simp [entryFrame, mkF, argsToLocals, Value.category]; done) | rfl
def Q26 (Z : State) (a0_ : Addr) (h0 : Heap) (n0 : Nat) (v : Option Value) (h : Heap) (L : List Loc) : Prop := v = none ∧ Fr n0 L ∧ h = h0
theorem pn51 : plainName "java/lang/Number" = true := by first | (simp [plainName, overriddenIn]; done) | decide +kernel
theorem rm26 (l : Launch) (Z : State) (a0 : Array Value) (hw : ∀ d ∈ tables_1, d.before a0 Z = true) (ws : List Jvm.Cond) (a0_ : Addr) (h0 : Heap) (n0 : Nat) (Z0 : n0 ≤ h0.size) (O0 : Old Z n0 h0) :
    Met l Z ws (⟨"java/lang/Number", "<init>", "()V"⟩ : MethodName) jdk_18_method_1_code 1 none (Rm 1 0 0 12) #[(.ref a0_)] h0 (Q26 Z a0_ h0 n0) := by
  refine Met.enter (L0 := #[.val (.ref a0_)]) (plainFor_of_name pn51) (fun m => ef26 m a0_) ?_
  intro p e s m below meth c s₁ hx hby hml hown hnm hret hlk hZ X0 e0
  have N0 := Fr.nil n0
  have K0 : Keep h0 h0 [] := Keep.refl h0 _
  refine Go.st (t' := s₁.setTop (mkF m 1 #[.val (.ref a0_)] [(.ref a0_)])) (fun target kt => ?_) ?_
  · refine XS.aloadN X0.here hx rfl (hb hby d26_0) rfl rfl ?_
    exact kt
  obtain ⟨T10, X10, e10, st10⟩ := initO X0 hx hZ hown (hw _ tw152) (hw _ tw12) (hw _ tw13) e0 (g := (mkF m 1 #[.val (.ref a0_)] [(.ref a0_)])) rfl (by rw [hml]; rfl) rfl (hb hby d26_1) (by decide) (W := 0) (by show 2 * 0 + _ ≤ _; exact Nat.le_of_eq rfl) (by decide)
  refine Go.st st10 ?_
  show Go _ _ _ _ _ _ _ (T10.setTop (mkF m 4 _ []))
  refine Go.ret X10 (v := none) (fun _ => rfl) hlk (fun fs hr => X10.returnOut hx hret (hb hby d26_4) hr) ?_ (by decide) (by decide)
  show Q26 Z a0_ h0 n0 _ T10.heap _
  rw [e10]
  exact ⟨rfl, N0, rfl⟩
theorem d25_0 : decode jdk_33_method_23_code 0 = .ok (.aload_n 0, 1) := by decide +kernel
theorem d25_1 : decode jdk_33_method_23_code 1 = .ok (.invokespecial 202, 3) := by decide +kernel
theorem tw146 : (Jvm.Cond.methodLink "java/lang/Integer" (202 : Nat) ({ cls := "java/lang/Number", name := "<init>", desc := "()V" } : Jvm.MethodName)) ∈ tables_1 := List.mem_of_getElem? (i := 146) rfl
theorem tw151 : (Jvm.Cond.code ({ cls := "java/lang/Number", name := "<init>", desc := "()V" } : Jvm.MethodName) jdk_18_method_1_code (1 : Nat) (Option.none : Option Jvm.ClassFile.FieldType)) ∈ tables_1 := List.mem_of_getElem? (i := 151) rfl
theorem tw150 : (Jvm.Cond.initialized "java/lang/Number") ∈ tables_1 := List.mem_of_getElem? (i := 150) rfl
theorem tw147 : (Jvm.Cond.instanceMethod ({ cls := "java/lang/Number", name := "<init>", desc := "()V" } : Jvm.MethodName)) ∈ tables_1 := List.mem_of_getElem? (i := 147) rfl
theorem d25_4 : decode jdk_33_method_23_code 4 = .ok (.aload_n 0, 1) := by decide +kernel
theorem d25_5 : decode jdk_33_method_23_code 5 = .ok (.iload_n 1, 1) := by decide +kernel
theorem d25_6 : decode jdk_33_method_23_code 6 = .ok (.putfield 205, 3) := by decide +kernel
theorem tw153 : (Jvm.Cond.fieldLink "java/lang/Integer" (205 : Nat) "java/lang/Integer" "value" "I") ∈ tables_1 := List.mem_of_getElem? (i := 153) rfl
theorem tw154 : (Jvm.Cond.laysFinal "java/lang/Integer" "java/lang/Integer" "value" "I") ∈ tables_1 := List.mem_of_getElem? (i := 154) rfl
theorem tw141 : (Jvm.Cond.instantiable "java/lang/Integer" (1 : Nat)) ∈ tables_1 := List.mem_of_getElem? (i := 141) rfl
theorem d25_9 : decode jdk_33_method_23_code 9 = .ok (.return_, 1) := by decide +kernel
theorem ef25 (m : MethodId) (x0 : Addr) (x1 : Int32) : entryFrame m #[(.ref x0), (.int x1)] 2 = mkF m 0 #[.val (.ref x0), .val (.int x1)] [] := by first | (simp [entryFrame, mkF, argsToLocals, Value.category]; done) | rfl
def Q25 (Z : State) (a0_ : Addr) (p1 : Int32) (h0 : Heap) (n0 : Nat) (v : Option Value) (h : Heap) (L : List Loc) : Prop := v = none ∧ Fr n0 L ∧ Keep h0 h [a0_] ∧ Exa Z h a0_ "java/lang/Integer"
theorem pn58 : plainName "java/lang/Integer" = true := by first | (simp [plainName, overriddenIn]; done) | decide +kernel
theorem rm25 (l : Launch) (Z : State) (a0 : Array Value) (hw : ∀ d ∈ tables_1, d.before a0 Z = true) (ws : List Jvm.Cond) (a0_ : Addr) (p1 : Int32) (h0 : Heap) (n0 : Nat) (Z0 : n0 ≤ h0.size) (O0 : Old Z n0 h0) (E0 : Exa Z h0 a0_ "java/lang/Integer") (g0 : n0 ≤ a0_) (Fv : Fld Z h0 a0_ "java/lang/Integer" "value" "I" (.int 0)) :
    Met l Z ws (⟨"java/lang/Integer", "<init>", "(I)V"⟩ : MethodName) jdk_33_method_23_code 2 none (Rm 2 0 0 24) #[(.ref a0_), (.int p1)] h0 (Q25 Z a0_ p1 h0 n0) := by
  refine Met.enter (L0 := #[.val (.ref a0_), .val (.int p1)]) (plainFor_of_name pn58) (fun m => ef25 m a0_ p1) ?_
  intro p e s m below meth c s₁ hx hby hml hown hnm hret hlk hZ X0 e0
  have N0 := Fr.nil n0
  have K0 : Keep h0 h0 [a0_] := Keep.refl h0 _
  refine Go.st (t' := s₁.setTop (mkF m 1 #[.val (.ref a0_), .val (.int p1)] [(.ref a0_)])) (fun target kt => ?_) ?_
  · refine XS.aloadN X0.here hx rfl (hb hby d25_0) rfl rfl ?_
    exact kt
  obtain ⟨_, _, ⟨T10, L10, k10, n10⟩, -, X10, ⟨Lc10, hQ10, l10, y10, z10⟩, st10⟩ := X0.specialBack hx (y := (⟨"java/lang/Number", "<init>", "()V"⟩ : MethodName)) rfl hown (mvT hZ (hw _ tw146)) (mvT hZ (hw _ tw147)) (mvT hZ (hw _ tw151)) (by decide) (backOf (W := 0) (rm26 l Z a0 hw [] a0_ h0 n0 (Nat.le_trans Z0 K0.1) O0  ) hZ (hw _ tw151) (hw _ tw150) (by decide) (by decide)) (g := (mkF m 1 #[.val (.ref a0_), .val (.int p1)] [(.ref a0_)])) rfl (by rw [hml]; rfl) (Steps.refl _) (a := a0_) (argsL := []) (rest := []) (lenOf pd0 rfl) rfl (by show 2 * 0 + _ ≤ _; exact Nat.le_of_eq rfl) (hb hby d25_1) (fun _ _ => ⟨rfl, e0, (by decide : 0 + 0 ≤ _), (by decide : 0 + 0 ≤ _)⟩)
  dsimp only [Pt.U, Pt.locs, Pt.cells, Pt.slots] at X10 l10 y10 z10 st10 hQ10
  subst l10 y10 z10
  obtain ⟨rfl, Nq10, eq10⟩ := hQ10
  have N10 := Fr.app N0 Nq10
  refine Go.by st10 ?_
  show Go _ _ _ _ _ _ _ (T10.setTop (mkF m 4 _ []))
  refine Go.st (t' := T10.setTop (mkF m 6 #[.val (.ref a0_), .val (.int p1)] [(.int p1), (.ref a0_)])) (fun target kt => ?_) ?_
  · refine XS.aloadN X10.here hx rfl (hb hby d25_4) rfl rfl ?_
    refine XS.iloadN X10.here hx rfl (hb hby d25_5) rfl ?_
    exact kt
  obtain ⟨T11, h11, X11, e11, W11, st11⟩ := putF X10 hx hZ hown (host := "") (Or.inl (hw _ tw153)) Via.refl eq10 Fv E0 (Or.inr ⟨(hw _ tw154), rfl, hnm⟩) (hw _ tw141) (ty := .int) (by decide) rfl rfl (g := (mkF m 6 #[.val (.ref a0_), .val (.int p1)] [(.int p1), (.ref a0_)])) rfl rfl (hb hby d25_6)
  have F12 : Fld Z h11 a0_ "java/lang/Integer" "value" "I" (.int p1) := Fv.same W11
  have K13 := K0.wr W11 (Or.inl (List.mem_of_getElem? (i := 0) rfl))
  have O14 := O0.wr W11 g0
  have N11 := Fr.snoc X11 N10 g0
  refine Go.st st11 ?_
  show Go _ _ _ _ _ _ _ (T11.setTop (mkF m 9 _ []))
  have c15 := E0.wr W11
  refine Go.ret X11 (v := none) (fun _ => rfl) hlk (fun fs hr => X11.returnOut hx hret (hb hby d25_9) hr) ?_ (by decide) (by decide)
  show Q25 Z a0_ p1 h0 n0 _ T11.heap _
  rw [e11]
  exact ⟨rfl, N11, K13, c15⟩
theorem d8_0 : decode jdk_33_method_22_code 0 = .ok (.iload_n 0, 1) := by decide +kernel
theorem d8_1 : decode jdk_33_method_22_code 1 = .ok (.bipush (-128), 2) := by decide +kernel
theorem d8_3 : decode jdk_33_method_22_code 3 = .ok (.if_icmp .lt 20, 3) := by decide +kernel
theorem d8_23 : decode jdk_33_method_22_code 23 = .ok (.new 1, 3) := by decide +kernel
theorem tw140 : (Jvm.Cond.classLink "java/lang/Integer" (1 : Nat) "java/lang/Integer") ∈ tables_1 := List.mem_of_getElem? (i := 140) rfl
theorem tw44 : (Jvm.Cond.initialized "java/lang/Integer") ∈ tables_1 := List.mem_of_getElem? (i := 44) rfl
theorem d8_26 : decode jdk_33_method_22_code 26 = .ok (.dup, 1) := by decide +kernel
theorem d8_27 : decode jdk_33_method_22_code 27 = .ok (.iload_n 0, 1) := by decide +kernel
theorem d8_28 : decode jdk_33_method_22_code 28 = .ok (.invokespecial 199, 3) := by decide +kernel
theorem tw142 : (Jvm.Cond.methodLink "java/lang/Integer" (199 : Nat) ({ cls := "java/lang/Integer", name := "<init>", desc := "(I)V" } : Jvm.MethodName)) ∈ tables_1 := List.mem_of_getElem? (i := 142) rfl
theorem tw145 : (Jvm.Cond.code ({ cls := "java/lang/Integer", name := "<init>", desc := "(I)V" } : Jvm.MethodName) jdk_33_method_23_code (2 : Nat) (Option.none : Option Jvm.ClassFile.FieldType)) ∈ tables_1 := List.mem_of_getElem? (i := 145) rfl
theorem pd4 : parseMethodDescriptor "(I)V" = some ⟨[.int], none⟩ := by decide +kernel
theorem tw143 : (Jvm.Cond.instanceMethod ({ cls := "java/lang/Integer", name := "<init>", desc := "(I)V" } : Jvm.MethodName)) ∈ tables_1 := List.mem_of_getElem? (i := 143) rfl
theorem d8_31 : decode jdk_33_method_22_code 31 = .ok (.areturn, 1) := by decide +kernel
theorem d8_6 : decode jdk_33_method_22_code 6 = .ok (.iload_n 0, 1) := by decide +kernel
theorem d8_7 : decode jdk_33_method_22_code 7 = .ok (.getstatic 191, 3) := by decide +kernel
theorem tw46 : (Jvm.Cond.fieldLink "java/lang/Integer" (191 : Nat) "java/lang/Integer$IntegerCache" "high" "I") ∈ tables_1 := List.mem_of_getElem? (i := 46) rfl
theorem d8_10 : decode jdk_33_method_22_code 10 = .ok (.if_icmp .gt 13, 3) := by decide +kernel
theorem d8_13 : decode jdk_33_method_22_code 13 = .ok (.getstatic 195, 3) := by decide +kernel
theorem tw48 : (Jvm.Cond.fieldLink "java/lang/Integer" (195 : Nat) "java/lang/Integer$IntegerCache" "cache" "[Ljava/lang/Integer;") ∈ tables_1 := List.mem_of_getElem? (i := 48) rfl
theorem d8_16 : decode jdk_33_method_22_code 16 = .ok (.iload_n 0, 1) := by decide +kernel
theorem d8_17 : decode jdk_33_method_22_code 17 = .ok (.sipush 128, 3) := by decide +kernel
theorem d8_20 : decode jdk_33_method_22_code 20 = .ok (.iadd, 1) := by decide +kernel
theorem d8_21 : decode jdk_33_method_22_code 21 = .ok (.aaload, 1) := by decide +kernel
theorem d8_22 : decode jdk_33_method_22_code 22 = .ok (.areturn, 1) := by decide +kernel
theorem ef8 (m : MethodId) (x0 : Int32) : entryFrame m #[(.int x0)] 1 = mkF m 0 #[.val (.int x0)] [] := by first | (simp [entryFrame, mkF, argsToLocals, Value.category]; done) | rfl
def Q8 (Z : State) (p0 : Int32) (wc : Addr) (clc : Cell) (h0 : Heap) (n0 : Nat) (v : Option Value) (h : Heap) (L : List Loc) : Prop := ∃ (b : Addr), v = some (.ref b) ∧ Fr n0 L ∧ Keep h0 h [] ∧ Exa Z h b "java/lang/Integer"
theorem rm8 (l : Launch) (Z : State) (a0 : Array Value) (hw : ∀ d ∈ tables_1, d.before a0 Z = true) (ws : List Jvm.Cond) (p0 : Int32) (wc : Addr) (clc : Cell) (h0 : Heap) (n0 : Nat) (Z0 : n0 ≤ h0.size) (O0 : Old Z n0 h0) (S_HI : Sta Z Z.heap "java/lang/Integer$IntegerCache" "high" "I" (.int 127)) (S_CA : Sta Z Z.heap "java/lang/Integer$IntegerCache" "cache" "[Ljava/lang/Integer;" (.ref wc)) (A_CA : Arr Z Z.heap wc clc (.object "java/lang/Integer")) (hcache : ∀ j : Int32, (0 ≤ j.toInt ∧ j.toInt < 256) → ∃ a : Addr, ¬ (j < 0 ∨ clc.slots.size ≤ j.toNatClampNeg) ∧ clc.slots[j.toNatClampNeg]? = some (.ref a) ∧ Exa Z Z.heap a "java/lang/Integer") :
    Met l Z ws (⟨"java/lang/Integer", "valueOf", "(I)Ljava/lang/Integer;"⟩ : MethodName) jdk_33_method_22_code 1 (some (.object "java/lang/Integer")) (Rm 3 1 1 38) #[(.int p0)] h0 (Q8 Z p0 wc clc h0 n0) := by
  refine Met.enter (L0 := #[.val (.int p0)]) (plainFor_of_name pn58) (fun m => ef8 m p0) ?_
  intro p e s m below meth c s₁ hx hby hml hown hnm hret hlk hZ X0 e0
  have N0 := Fr.nil n0
  have K0 : Keep h0 h0 [] := Keep.refl h0 _
  refine Go.st (t' := s₁.setTop (mkF m 3 #[.val (.int p0)] [(.int (-128)), (.int p0)])) (fun target kt => ?_) ?_
  · refine XS.iloadN X0.here hx rfl (hb hby d8_0) rfl ?_
    refine XS.bipush X0.here hx rfl (hb hby d8_1) ?_
    exact kt
  rcases Classical.em (p0 < (-128 : Int32)) with hc10 | hc10
  · refine Go.st (t' := s₁.setTop (mkF m 23 #[.val (.int p0)] [])) (fun target kt => ?_) ?_
    · refine XS.icmpYes X0.here hx rfl (pc0 := 3) (pc' := 23) rfl (hb hby d8_3) rfl (tlt hc10).1 (by decide) (by decide) ?_
      exact kt
    obtain ⟨T11, h11, X11, e11, E11, A11, D11, -, st11⟩ := newO X0 hx hZ hown (hw _ tw140) (hw _ tw141) (hw _ tw44) e0 (g := (mkF m 23 #[.val (.int p0)] [])) rfl (hb hby d8_23) (by decide) (by decide)
    obtain ⟨b11, g11⟩ : ∃ z, z = h0.size := ⟨_, rfl⟩
    rw [← g11] at A11 D11 st11
    have lb12 : h0.size ≤ b11 := Nat.le_of_eq g11.symm
    have sz13 : h0.size ≤ b11 := Nat.le_trans K0.1 lb12
    have g14 : n0 ≤ b11 := Nat.le_trans Z0 sz13
    have K15 := K0.ext E11
    have O16 := O0.ext E11
    have F17 : Fld Z h11 b11 "java/lang/Integer" "value" "I" (.int 0) := D11 (Or.inr (hw _ tw154)) (ty := .int) (by decide)
    refine Go.st st11 ?_
    show Go _ _ _ _ _ _ _ (T11.setTop (mkF m 26 _ [(.ref b11)]))
    refine Go.st (t' := T11.setTop (mkF m 28 #[.val (.int p0)] [(.int p0), (.ref b11), (.ref b11)])) (fun target kt => ?_) ?_
    · refine XS.dup X11.here hx rfl (hb hby d8_26) rfl rfl ?_
      refine XS.iloadN X11.here hx rfl (hb hby d8_27) rfl ?_
      exact kt
    obtain ⟨_, _, ⟨T18, L18, k18, n18⟩, -, X18, ⟨Lc18, hQ18, l18, y18, z18⟩, st18⟩ := X11.specialBack hx (y := (⟨"java/lang/Integer", "<init>", "(I)V"⟩ : MethodName)) rfl hown (mvT hZ (hw _ tw142)) (mvT hZ (hw _ tw143)) (mvT hZ (hw _ tw145)) (by decide) (backOf (W := 1) (rm25 l Z a0 hw [] b11 p0 h11 n0 (Nat.le_trans Z0 K15.1) O16  A11 g14 F17) hZ (hw _ tw145) (hw _ tw44) (by decide) (by decide)) (g := (mkF m 28 #[.val (.int p0)] [(.int p0), (.ref b11), (.ref b11)])) rfl (by rw [hml]; rfl) (Steps.refl _) (a := b11) (argsL := [(.int p0)]) (rest := [(.ref b11)]) (lenOf pd4 rfl) rfl (by show 2 * 0 + _ ≤ _; exact Nat.le_of_eq rfl) (hb hby d8_28) (fun _ _ => ⟨rfl, e11, (by decide : 1 + 0 ≤ _), (by decide : 1 + 0 ≤ _)⟩)
    dsimp only [Pt.U, Pt.locs, Pt.cells, Pt.slots] at X18 l18 y18 z18 st18 hQ18
    subst l18 y18 z18
    obtain ⟨rfl, Nq18, Kq18, q19⟩ := hQ18
    have N18 := Fr.app N0 Nq18
    have K20 := K15.trans Kq18 (allS (Or.inr sz13) all0)
    have O21 := O16.keep Kq18 (allS g14 all0)
    refine Go.by st18 ?_
    show Go _ _ _ _ _ _ _ (T18.setTop (mkF m 31 _ [(.ref b11)]))
    refine Go.ret X18 (v := some (.ref b11)) (fun h => by rw [hret] at h; cases h) hlk (fun fs hr => retR X18 hx hret rfl rfl (hb hby d8_31) hr) ?_ (by decide) (by decide)
    show Q8 Z p0 wc clc h0 n0 _ T18.heap _
    exact ⟨b11, rfl, N18, K20, q19⟩
  · refine Go.st (t' := s₁.setTop (mkF m 7 #[.val (.int p0)] [(.int p0)])) (fun target kt => ?_) ?_
    · refine XS.icmpNo X0.here hx rfl (hb hby d8_3) rfl (flt hc10).1 ?_
      refine XS.iloadN X0.here hx rfl (hb hby d8_6) rfl ?_
      exact kt
    obtain ⟨T22, X22, e22, st22⟩ := getS2 X0 hx hZ hown (host := "") (Or.inl (hw _ tw46)) Via.refl e0 (S_HI.ext O0.2) (g := (mkF m 7 #[.val (.int p0)] [(.int p0)])) rfl (hb hby d8_7)
    refine Go.st st22 ?_
    show Go _ _ _ _ _ _ _ (T22.setTop (mkF m 10 _ [(.int 127), (.int p0)]))
    rcases Classical.em ((127 : Int32) < p0) with hc23 | hc23
    · refine Go.st (t' := T22.setTop (mkF m 23 #[.val (.int p0)] [])) (fun target kt => ?_) ?_
      · refine XS.icmpYes X22.here hx rfl (pc0 := 10) (pc' := 23) rfl (hb hby d8_10) rfl (tlt hc23).2.2.1 (by decide) (by decide) ?_
        exact kt
      obtain ⟨T24, h24, X24, e24, E24, A24, D24, -, st24⟩ := newO X22 hx hZ hown (hw _ tw140) (hw _ tw141) (hw _ tw44) e22 (g := (mkF m 23 #[.val (.int p0)] [])) rfl (hb hby d8_23) (by decide) (by decide)
      obtain ⟨b24, g24⟩ : ∃ z, z = h0.size := ⟨_, rfl⟩
      rw [← g24] at A24 D24 st24
      have lb25 : h0.size ≤ b24 := Nat.le_of_eq g24.symm
      have sz26 : h0.size ≤ b24 := Nat.le_trans K0.1 lb25
      have g27 : n0 ≤ b24 := Nat.le_trans Z0 sz26
      have K28 := K0.ext E24
      have O29 := O0.ext E24
      have F30 : Fld Z h24 b24 "java/lang/Integer" "value" "I" (.int 0) := D24 (Or.inr (hw _ tw154)) (ty := .int) (by decide)
      refine Go.st st24 ?_
      show Go _ _ _ _ _ _ _ (T24.setTop (mkF m 26 _ [(.ref b24)]))
      refine Go.st (t' := T24.setTop (mkF m 28 #[.val (.int p0)] [(.int p0), (.ref b24), (.ref b24)])) (fun target kt => ?_) ?_
      · refine XS.dup X24.here hx rfl (hb hby d8_26) rfl rfl ?_
        refine XS.iloadN X24.here hx rfl (hb hby d8_27) rfl ?_
        exact kt
      obtain ⟨_, _, ⟨T31, L31, k31, n31⟩, -, X31, ⟨Lc31, hQ31, l31, y31, z31⟩, st31⟩ := X24.specialBack hx (y := (⟨"java/lang/Integer", "<init>", "(I)V"⟩ : MethodName)) rfl hown (mvT hZ (hw _ tw142)) (mvT hZ (hw _ tw143)) (mvT hZ (hw _ tw145)) (by decide) (backOf (W := 1) (rm25 l Z a0 hw [] b24 p0 h24 n0 (Nat.le_trans Z0 K28.1) O29  A24 g27 F30) hZ (hw _ tw145) (hw _ tw44) (by decide) (by decide)) (g := (mkF m 28 #[.val (.int p0)] [(.int p0), (.ref b24), (.ref b24)])) rfl (by rw [hml]; rfl) (Steps.refl _) (a := b24) (argsL := [(.int p0)]) (rest := [(.ref b24)]) (lenOf pd4 rfl) rfl (by show 2 * 0 + _ ≤ _; exact Nat.le_of_eq rfl) (hb hby d8_28) (fun _ _ => ⟨rfl, e24, (by decide : 1 + 0 ≤ _), (by decide : 1 + 0 ≤ _)⟩)
      dsimp only [Pt.U, Pt.locs, Pt.cells, Pt.slots] at X31 l31 y31 z31 st31 hQ31
      subst l31 y31 z31
      obtain ⟨rfl, Nq31, Kq31, q32⟩ := hQ31
      have N31 := Fr.app N0 Nq31
      have K33 := K28.trans Kq31 (allS (Or.inr sz26) all0)
      have O34 := O29.keep Kq31 (allS g27 all0)
      refine Go.by st31 ?_
      show Go _ _ _ _ _ _ _ (T31.setTop (mkF m 31 _ [(.ref b24)]))
      refine Go.ret X31 (v := some (.ref b24)) (fun h => by rw [hret] at h; cases h) hlk (fun fs hr => retR X31 hx hret rfl rfl (hb hby d8_31) hr) ?_ (by decide) (by decide)
      show Q8 Z p0 wc clc h0 n0 _ T31.heap _
      exact ⟨b24, rfl, N31, K33, q32⟩
    · refine Go.st (t' := T22.setTop (mkF m 13 #[.val (.int p0)] [])) (fun target kt => ?_) ?_
      · refine XS.icmpNo X22.here hx rfl (hb hby d8_10) rfl (flt hc23).2.2.1 ?_
        exact kt
      obtain ⟨T35, X35, e35, st35⟩ := getS2 X22 hx hZ hown (host := "") (Or.inl (hw _ tw48)) Via.refl e22 (S_CA.ext O0.2) (g := (mkF m 13 #[.val (.int p0)] [])) rfl (hb hby d8_13)
      refine Go.st st35 ?_
      show Go _ _ _ _ _ _ _ (T35.setTop (mkF m 16 _ [(.ref wc)]))
      obtain ⟨ac36, hin36, hat36, Ec36⟩ := hcache (p0 + (128 : Int32)) (own_cache hc10 hc23)
      refine Go.st (t' := T35.setTop (mkF m 22 #[.val (.int p0)] [(.ref ac36)])) (fun target kt => ?_) ?_
      · refine XS.iloadN X35.here hx rfl (hb hby d8_16) rfl ?_
        refine XS.sipush X35.here hx rfl (hb hby d8_17) ?_
        refine XS.iadd X35.here hx rfl (hb hby d8_20) rfl ?_
        refine X35.aaload hx (j := (p0 + (128 : Int32))) (v := (.ref ac36)) (by rw [e35]; exact (A_CA.ext O0.2).1) (State.isArrayOf_alike hZ.alike (A_CA.ext O0.2).2.1) rfl (A_CA.ext O0.2).2.2 hin36 hat36 (g := (mkF m 21 #[.val (.int p0)] [(.int (p0 + (128 : Int32))), (.ref wc)])) rfl rfl (hb hby d8_21) _ ?_
        exact kt
      refine Go.ret X35 (v := some (.ref ac36)) (fun h => by rw [hret] at h; cases h) hlk (fun fs hr => retR X35 hx hret rfl rfl (hb hby d8_22) hr) ?_ (by decide) (by decide)
      show Q8 Z p0 wc clc h0 n0 _ T35.heap _
      rw [e35]
      exact ⟨ac36, rfl, N0, K0, (Ec36.ext O0.2)⟩
theorem d10_0 : decode jdk_31_method_11_code 0 = .ok (.aload_n 0, 1) := by decide +kernel
theorem d10_1 : decode jdk_31_method_11_code 1 = .ok (.ifnonnull 12, 3) := by decide +kernel
theorem d10_13 : decode jdk_31_method_11_code 13 = .ok (.aload_n 0, 1) := by decide +kernel
theorem d10_14 : decode jdk_31_method_11_code 14 = .ok (.areturn, 1) := by decide +kernel
theorem ef10 (m : MethodId) (x0 : Addr) (x1 : Addr) : entryFrame m #[(.ref x0), (.ref x1)] 2 = mkF m 0 #[.val (.ref x0), .val (.ref x1)] [] := by first | (simp [entryFrame, mkF, argsToLocals, Value.category]; done) | rfl
def Q10 (Z : State) (a0_ : Addr) (a1_ : Addr) (h0 : Heap) (n0 : Nat) (v : Option Value) (h : Heap) (L : List Loc) : Prop := v = some (.ref a0_) ∧ Fr n0 L ∧ h = h0
theorem pn80 : plainName "java/util/Objects" = true := by first | (simp [plainName, overriddenIn]; done) | decide +kernel
theorem rm10 (l : Launch) (Z : State) (a0 : Array Value) (hw : ∀ d ∈ tables_1, d.before a0 Z = true) (ws : List Jvm.Cond) (a0_ : Addr) (a1_ : Addr) (h0 : Heap) (n0 : Nat) (Z0 : n0 ≤ h0.size) (O0 : Old Z n0 h0) :
    Met l Z ws (⟨"java/util/Objects", "requireNonNull", "(Ljava/lang/Object;Ljava/lang/String;)Ljava/lang/Object;"⟩ : MethodName) jdk_31_method_11_code 2 (some (.object sq1)) (Rm 0 0 0 0) #[(.ref a0_), (.ref a1_)] h0 (Q10 Z a0_ a1_ h0 n0) := by
  refine Met.enter (L0 := #[.val (.ref a0_), .val (.ref a1_)]) (plainFor_of_name pn80) (fun m => ef10 m a0_ a1_) ?_
  intro p e s m below meth c s₁ hx hby hml hown hnm hret hlk hZ X0 e0
  have N0 := Fr.nil n0
  have K0 : Keep h0 h0 [] := Keep.refl h0 _
  refine Go.st (t' := s₁.setTop (mkF m 14 #[.val (.ref a0_), .val (.ref a1_)] [(.ref a0_)])) (fun target kt => ?_) ?_
  · refine XS.aloadN X0.here hx rfl (hb hby d10_0) rfl rfl ?_
    refine XS.ifnonnullYes X0.here hx rfl (pc0 := 1) (pc' := 13) rfl (hb hby d10_1) rfl (by decide) (by decide) ?_
    refine XS.aloadN X0.here hx rfl (hb hby d10_13) rfl rfl ?_
    exact kt
  refine Go.ret X0 (v := some (.ref a0_)) (fun h => by rw [hret] at h; cases h) hlk (fun fs hr => retR X0 hx hret rfl rfl (hb hby d10_14) hr) ?_ (by decide) (by decide)
  show Q10 Z a0_ a1_ h0 n0 _ s₁.heap _
  rw [e0]
  exact ⟨rfl, N0, rfl⟩
theorem d24_0 : decode jdk_43_method_13_code 0 = .ok (.aload_n 0, 1) := by decide +kernel
theorem d24_1 : decode jdk_43_method_13_code 1 = .ok (.arraylength, 1) := by decide +kernel
theorem d24_2 : decode jdk_43_method_13_code 2 = .ok (.aload_n 1, 1) := by decide +kernel
theorem d24_3 : decode jdk_43_method_13_code 3 = .ok (.arraylength, 1) := by decide +kernel
theorem d24_4 : decode jdk_43_method_13_code 4 = .ok (.if_icmp .ne 30, 3) := by decide +kernel
theorem d24_7 : decode jdk_43_method_13_code 7 = .ok (.iconst 0, 1) := by decide +kernel
theorem d24_8 : decode jdk_43_method_13_code 8 = .ok (.istore_n 2, 1) := by decide +kernel
theorem d24_9 : decode jdk_43_method_13_code 9 = .ok (.iload_n 2, 1) := by decide +kernel
theorem d24_10 : decode jdk_43_method_13_code 10 = .ok (.aload_n 0, 1) := by decide +kernel
theorem d24_11 : decode jdk_43_method_13_code 11 = .ok (.arraylength, 1) := by decide +kernel
theorem d24_12 : decode jdk_43_method_13_code 12 = .ok (.if_icmp .ge 20, 3) := by decide +kernel
theorem d24_15 : decode jdk_43_method_13_code 15 = .ok (.aload_n 0, 1) := by decide +kernel
theorem d24_16 : decode jdk_43_method_13_code 16 = .ok (.iload_n 2, 1) := by decide +kernel
theorem d24_17 : decode jdk_43_method_13_code 17 = .ok (.baload, 1) := by decide +kernel
theorem d24_18 : decode jdk_43_method_13_code 18 = .ok (.aload_n 1, 1) := by decide +kernel
theorem d24_19 : decode jdk_43_method_13_code 19 = .ok (.iload_n 2, 1) := by decide +kernel
theorem d24_20 : decode jdk_43_method_13_code 20 = .ok (.baload, 1) := by decide +kernel
theorem d24_21 : decode jdk_43_method_13_code 21 = .ok (.if_icmp .eq 5, 3) := by decide +kernel
theorem d24_26 : decode jdk_43_method_13_code 26 = .ok (.iinc 2 1, 3) := by decide +kernel
theorem d24_29 : decode jdk_43_method_13_code 29 = .ok (.goto (-20), 3) := by decide +kernel
theorem d24_32 : decode jdk_43_method_13_code 32 = .ok (.iconst 1, 1) := by decide +kernel
theorem d24_33 : decode jdk_43_method_13_code 33 = .ok (.ireturn, 1) := by decide +kernel
theorem ef24_eq (m : MethodId) (x0 : Addr) (x1 : Addr) : entryFrame m #[(.ref x0), (.ref x1)] 3 = mkF m 0 #[.val (.ref x0), .val (.ref x1), .unset] [] := by first | (simp [entryFrame, mkF, argsToLocals, Value.category]; done) | rfl
def Q24_eq (Z : State) (a0_ : Addr) (a1_ : Addr) (k0 : ClassId) (k1 : ClassId) (x0 : Int32) (x1 : Int32) (h0 : Heap) (n0 : Nat) (v : Option Value) (h : Heap) (L : List Loc) : Prop := v = some (.int 1) ∧ Fr n0 L ∧ h = h0
theorem rm24_eq (l : Launch) (Z : State) (a0 : Array Value) (hw : ∀ d ∈ tables_1, d.before a0 Z = true) (ws : List Jvm.Cond) (a0_ : Addr) (a1_ : Addr) (k0 : ClassId) (k1 : ClassId) (x0 : Int32) (x1 : Int32) (h0 : Heap) (n0 : Nat) (Z0 : n0 ≤ h0.size) (O0 : Old Z n0 h0) (V0 : Arv Z h0 a0_ k0 .byte (1 : Int32) [(.int x0)] (.int 0)) (V1 : Arv Z h0 a1_ k1 .byte (1 : Int32) [(.int x1)] (.int 0)) (hcd0 : x0 = x1) :
    Met l Z ws (⟨"java/lang/StringLatin1", "equals", "([B[B)Z"⟩ : MethodName) jdk_43_method_13_code 3 (some .boolean) (Rm 0 0 0 0) #[(.ref a0_), (.ref a1_)] h0 (Q24_eq Z a0_ a1_ k0 k1 x0 x1 h0 n0) := by
  refine Met.enter (L0 := #[.val (.ref a0_), .val (.ref a1_), .unset]) (plainFor_of_name pn17) (fun m => ef24_eq m a0_ a1_) ?_
  intro p e s m below meth c s₁ hx hby hml hown hnm hret hlk hZ X0 e0
  have N0 := Fr.nil n0
  have K0 : Keep h0 h0 [] := Keep.refl h0 _
  obtain ⟨cl10, Ar10, -, S10, M10, -, -⟩ := id V0
  obtain ⟨cl11, Ar11, -, S11, M11, -, -⟩ := id V1
  obtain ⟨cl12, Ar12, -, S12, M12, -, -⟩ := id V0
  obtain ⟨cl13, Ar13, -, S13, M13, H13, -⟩ := id V0
  have hin13 : ¬ ((0 : Int32) < 0 ∨ cl13.slots.size ≤ ((0 : Int32)).toNatClampNeg) := inb_of S13 ⟨by decide, by decide⟩
  have hat13 : cl13.slots[((0 : Int32)).toNatClampNeg]? = some (.int x0) := H13.at hin13 rfl
  obtain ⟨cl14, Ar14, -, S14, M14, H14, -⟩ := id V1
  have hin14 : ¬ ((0 : Int32) < 0 ∨ cl14.slots.size ≤ ((0 : Int32)).toNatClampNeg) := inb_of S14 ⟨by decide, by decide⟩
  have hat14 : cl14.slots[((0 : Int32)).toNatClampNeg]? = some (.int x1) := H14.at hin14 rfl
  obtain ⟨cl15, Ar15, -, S15, M15, -, -⟩ := id V0
  refine Go.st (t' := s₁.setTop (mkF m 33 #[.val (.ref a0_), .val (.ref a1_), .val (.int 1)] [(.int 1)])) (fun target kt => ?_) ?_
  · refine XS.aloadN X0.here hx rfl (hb hby d24_0) rfl rfl ?_
    refine X0.arraylength hx (by rw [e0]; exact Ar10.1) (State.isArrayOf_alike hZ.alike Ar10.2.1) (g := (mkF m 1 #[.val (.ref a0_), .val (.ref a1_), .unset] [(.ref a0_)])) rfl rfl (hb hby d24_1) _ ?_
    rw [len_of S10 M10]
    refine XS.aloadN X0.here hx rfl (hb hby d24_2) rfl rfl ?_
    refine X0.arraylength hx (by rw [e0]; exact Ar11.1) (State.isArrayOf_alike hZ.alike Ar11.2.1) (g := (mkF m 3 #[.val (.ref a0_), .val (.ref a1_), .unset] [(.ref a1_), (.int 1)])) rfl rfl (hb hby d24_3) _ ?_
    rw [len_of S11 M11]
    refine XS.icmpNo X0.here hx rfl (hb hby d24_4) rfl (teq (by decide : (1 : Int32) = (1 : Int32))).2 ?_
    refine XS.iconst X0.here hx rfl (hb hby d24_7) ?_
    refine XS.istoreN X0.here hx rfl (hb hby d24_8) rfl (l' := #[.val (.ref a0_), .val (.ref a1_), .val (.int 0)]) rfl ?_
    refine XS.iloadN X0.here hx rfl (hb hby d24_9) rfl ?_
    refine XS.aloadN X0.here hx rfl (hb hby d24_10) rfl rfl ?_
    refine X0.arraylength hx (by rw [e0]; exact Ar12.1) (State.isArrayOf_alike hZ.alike Ar12.2.1) (g := (mkF m 11 #[.val (.ref a0_), .val (.ref a1_), .val (.int 0)] [(.ref a0_), (.int 0)])) rfl rfl (hb hby d24_11) _ ?_
    rw [len_of S12 M12]
    refine XS.icmpNo X0.here hx rfl (hb hby d24_12) rfl (tlt (by decide : (0 : Int32) < (1 : Int32))).2.1 ?_
    refine XS.aloadN X0.here hx rfl (hb hby d24_15) rfl rfl ?_
    refine XS.iloadN X0.here hx rfl (hb hby d24_16) rfl ?_
    refine X0.baloadBytes hx (j := (0 : Int32)) (v := (.int x0)) (by rw [e0]; exact Ar13.1) (State.isArrayOf_alike hZ.alike Ar13.2.1) Ar13.2.2 hin13 hat13 (g := (mkF m 17 #[.val (.ref a0_), .val (.ref a1_), .val (.int 0)] [(.int 0), (.ref a0_)])) rfl rfl (hb hby d24_17) _ ?_
    refine XS.aloadN X0.here hx rfl (hb hby d24_18) rfl rfl ?_
    refine XS.iloadN X0.here hx rfl (hb hby d24_19) rfl ?_
    refine X0.baloadBytes hx (j := (0 : Int32)) (v := (.int x1)) (by rw [e0]; exact Ar14.1) (State.isArrayOf_alike hZ.alike Ar14.2.1) Ar14.2.2 hin14 hat14 (g := (mkF m 20 #[.val (.ref a0_), .val (.ref a1_), .val (.int 0)] [(.int 0), (.ref a1_), (.int x0)])) rfl rfl (hb hby d24_20) _ ?_
    refine XS.icmpYes X0.here hx rfl (pc0 := 21) (pc' := 26) rfl (hb hby d24_21) rfl (teq hcd0).1 (by decide) (by decide) ?_
    refine XS.iinc X0.here hx rfl (hb hby d24_26) rfl (l' := #[.val (.ref a0_), .val (.ref a1_), .val (.int 1)]) rfl ?_
    refine XS.goto X0.here hx rfl (pc0 := 29) (pc' := 9) rfl (hb hby d24_29) (by decide) (by decide) ?_
    refine XS.iloadN X0.here hx rfl (hb hby d24_9) rfl ?_
    refine XS.aloadN X0.here hx rfl (hb hby d24_10) rfl rfl ?_
    refine X0.arraylength hx (by rw [e0]; exact Ar15.1) (State.isArrayOf_alike hZ.alike Ar15.2.1) (g := (mkF m 11 #[.val (.ref a0_), .val (.ref a1_), .val (.int 1)] [(.ref a0_), (.int 1)])) rfl rfl (hb hby d24_11) _ ?_
    rw [len_of S15 M15]
    refine XS.icmpYes X0.here hx rfl (pc0 := 12) (pc' := 32) rfl (hb hby d24_12) rfl (flt (by decide : ¬ ((1 : Int32) < (1 : Int32)))).2.1 (by decide) (by decide) ?_
    refine XS.iconst X0.here hx rfl (hb hby d24_32) ?_
    exact kt
  refine Go.ret X0 (v := some (.int 1)) (fun h => by rw [hret] at h; cases h) hlk (fun fs hr => retN X0 hx (t := .boolean) hret (by simp) (hb hby d24_33) hr) ?_ (by decide) (by decide)
  show Q24_eq Z a0_ a1_ k0 k1 x0 x1 h0 n0 _ s₁.heap _
  rw [e0]
  exact ⟨rfl, N0, rfl⟩
theorem d24_24 : decode jdk_43_method_13_code 24 = .ok (.iconst 0, 1) := by decide +kernel
theorem d24_25 : decode jdk_43_method_13_code 25 = .ok (.ireturn, 1) := by decide +kernel
theorem ef24_ne (m : MethodId) (x0 : Addr) (x1 : Addr) : entryFrame m #[(.ref x0), (.ref x1)] 3 = mkF m 0 #[.val (.ref x0), .val (.ref x1), .unset] [] := by first | (simp [entryFrame, mkF, argsToLocals, Value.category]; done) | rfl
def Q24_ne (Z : State) (a0_ : Addr) (a1_ : Addr) (k0 : ClassId) (k1 : ClassId) (x0 : Int32) (x1 : Int32) (h0 : Heap) (n0 : Nat) (v : Option Value) (h : Heap) (L : List Loc) : Prop := v = some (.int 0) ∧ Fr n0 L ∧ h = h0
theorem rm24_ne (l : Launch) (Z : State) (a0 : Array Value) (hw : ∀ d ∈ tables_1, d.before a0 Z = true) (ws : List Jvm.Cond) (a0_ : Addr) (a1_ : Addr) (k0 : ClassId) (k1 : ClassId) (x0 : Int32) (x1 : Int32) (h0 : Heap) (n0 : Nat) (Z0 : n0 ≤ h0.size) (O0 : Old Z n0 h0) (V0 : Arv Z h0 a0_ k0 .byte (1 : Int32) [(.int x0)] (.int 0)) (V1 : Arv Z h0 a1_ k1 .byte (1 : Int32) [(.int x1)] (.int 0)) (hcd0 : ¬ (x0 = x1)) :
    Met l Z ws (⟨"java/lang/StringLatin1", "equals", "([B[B)Z"⟩ : MethodName) jdk_43_method_13_code 3 (some .boolean) (Rm 0 0 0 0) #[(.ref a0_), (.ref a1_)] h0 (Q24_ne Z a0_ a1_ k0 k1 x0 x1 h0 n0) := by
  refine Met.enter (L0 := #[.val (.ref a0_), .val (.ref a1_), .unset]) (plainFor_of_name pn17) (fun m => ef24_ne m a0_ a1_) ?_
  intro p e s m below meth c s₁ hx hby hml hown hnm hret hlk hZ X0 e0
  have N0 := Fr.nil n0
  have K0 : Keep h0 h0 [] := Keep.refl h0 _
  obtain ⟨cl10, Ar10, -, S10, M10, -, -⟩ := id V0
  obtain ⟨cl11, Ar11, -, S11, M11, -, -⟩ := id V1
  obtain ⟨cl12, Ar12, -, S12, M12, -, -⟩ := id V0
  obtain ⟨cl13, Ar13, -, S13, M13, H13, -⟩ := id V0
  have hin13 : ¬ ((0 : Int32) < 0 ∨ cl13.slots.size ≤ ((0 : Int32)).toNatClampNeg) := inb_of S13 ⟨by decide, by decide⟩
  have hat13 : cl13.slots[((0 : Int32)).toNatClampNeg]? = some (.int x0) := H13.at hin13 rfl
  obtain ⟨cl14, Ar14, -, S14, M14, H14, -⟩ := id V1
  have hin14 : ¬ ((0 : Int32) < 0 ∨ cl14.slots.size ≤ ((0 : Int32)).toNatClampNeg) := inb_of S14 ⟨by decide, by decide⟩
  have hat14 : cl14.slots[((0 : Int32)).toNatClampNeg]? = some (.int x1) := H14.at hin14 rfl
  refine Go.st (t' := s₁.setTop (mkF m 25 #[.val (.ref a0_), .val (.ref a1_), .val (.int 0)] [(.int 0)])) (fun target kt => ?_) ?_
  · refine XS.aloadN X0.here hx rfl (hb hby d24_0) rfl rfl ?_
    refine X0.arraylength hx (by rw [e0]; exact Ar10.1) (State.isArrayOf_alike hZ.alike Ar10.2.1) (g := (mkF m 1 #[.val (.ref a0_), .val (.ref a1_), .unset] [(.ref a0_)])) rfl rfl (hb hby d24_1) _ ?_
    rw [len_of S10 M10]
    refine XS.aloadN X0.here hx rfl (hb hby d24_2) rfl rfl ?_
    refine X0.arraylength hx (by rw [e0]; exact Ar11.1) (State.isArrayOf_alike hZ.alike Ar11.2.1) (g := (mkF m 3 #[.val (.ref a0_), .val (.ref a1_), .unset] [(.ref a1_), (.int 1)])) rfl rfl (hb hby d24_3) _ ?_
    rw [len_of S11 M11]
    refine XS.icmpNo X0.here hx rfl (hb hby d24_4) rfl (teq (by decide : (1 : Int32) = (1 : Int32))).2 ?_
    refine XS.iconst X0.here hx rfl (hb hby d24_7) ?_
    refine XS.istoreN X0.here hx rfl (hb hby d24_8) rfl (l' := #[.val (.ref a0_), .val (.ref a1_), .val (.int 0)]) rfl ?_
    refine XS.iloadN X0.here hx rfl (hb hby d24_9) rfl ?_
    refine XS.aloadN X0.here hx rfl (hb hby d24_10) rfl rfl ?_
    refine X0.arraylength hx (by rw [e0]; exact Ar12.1) (State.isArrayOf_alike hZ.alike Ar12.2.1) (g := (mkF m 11 #[.val (.ref a0_), .val (.ref a1_), .val (.int 0)] [(.ref a0_), (.int 0)])) rfl rfl (hb hby d24_11) _ ?_
    rw [len_of S12 M12]
    refine XS.icmpNo X0.here hx rfl (hb hby d24_12) rfl (tlt (by decide : (0 : Int32) < (1 : Int32))).2.1 ?_
    refine XS.aloadN X0.here hx rfl (hb hby d24_15) rfl rfl ?_
    refine XS.iloadN X0.here hx rfl (hb hby d24_16) rfl ?_
    refine X0.baloadBytes hx (j := (0 : Int32)) (v := (.int x0)) (by rw [e0]; exact Ar13.1) (State.isArrayOf_alike hZ.alike Ar13.2.1) Ar13.2.2 hin13 hat13 (g := (mkF m 17 #[.val (.ref a0_), .val (.ref a1_), .val (.int 0)] [(.int 0), (.ref a0_)])) rfl rfl (hb hby d24_17) _ ?_
    refine XS.aloadN X0.here hx rfl (hb hby d24_18) rfl rfl ?_
    refine XS.iloadN X0.here hx rfl (hb hby d24_19) rfl ?_
    refine X0.baloadBytes hx (j := (0 : Int32)) (v := (.int x1)) (by rw [e0]; exact Ar14.1) (State.isArrayOf_alike hZ.alike Ar14.2.1) Ar14.2.2 hin14 hat14 (g := (mkF m 20 #[.val (.ref a0_), .val (.ref a1_), .val (.int 0)] [(.int 0), (.ref a1_), (.int x0)])) rfl rfl (hb hby d24_20) _ ?_
    refine XS.icmpNo X0.here hx rfl (hb hby d24_21) rfl (feq hcd0).1 ?_
    refine XS.iconst X0.here hx rfl (hb hby d24_24) ?_
    exact kt
  refine Go.ret X0 (v := some (.int 0)) (fun h => by rw [hret] at h; cases h) hlk (fun fs hr => retN X0 hx (t := .boolean) hret (by simp) (hb hby d24_25) hr) ?_ (by decide) (by decide)
  show Q24_ne Z a0_ a1_ k0 k1 x0 x1 h0 n0 _ s₁.heap _
  rw [e0]
  exact ⟨rfl, N0, rfl⟩
theorem d23_0 : decode jdk_42_method_66_code 0 = .ok (.aload_n 0, 1) := by decide +kernel
theorem d23_1 : decode jdk_42_method_66_code 1 = .ok (.aload_n 1, 1) := by decide +kernel
theorem d23_2 : decode jdk_42_method_66_code 2 = .ok (.if_acmp .ne 5, 3) := by decide +kernel
theorem d23_5 : decode jdk_42_method_66_code 5 = .ok (.iconst 1, 1) := by decide +kernel
theorem d23_6 : decode jdk_42_method_66_code 6 = .ok (.ireturn, 1) := by decide +kernel
theorem ef23_same (m : MethodId) (x0 : Addr) (x1 : Addr) : entryFrame m #[(.ref x0), (.ref x1)] 3 = mkF m 0 #[.val (.ref x0), .val (.ref x1), .unset] [] := by first | (simp [entryFrame, mkF, argsToLocals, Value.category]; done) | rfl
def Q23_same (Z : State) (a0_ : Addr) (h0 : Heap) (n0 : Nat) (v : Option Value) (h : Heap) (L : List Loc) : Prop := v = some (.int 1) ∧ Fr n0 L ∧ h = h0
theorem rm23_same (l : Launch) (Z : State) (a0 : Array Value) (hw : ∀ d ∈ tables_1, d.before a0 Z = true) (ws : List Jvm.Cond) (a0_ : Addr) (h0 : Heap) (n0 : Nat) (Z0 : n0 ≤ h0.size) (O0 : Old Z n0 h0) :
    Met l Z ws (⟨sq2, "equals", "(Ljava/lang/Object;)Z"⟩ : MethodName) jdk_42_method_66_code 3 (some .boolean) (Rm 0 0 0 0) #[(.ref a0_), (.ref a0_)] h0 (Q23_same Z a0_ h0 n0) := by
  refine Met.enter (L0 := #[.val (.ref a0_), .val (.ref a0_), .unset]) (plainFor_of_name pn35) (fun m => ef23_same m a0_ a0_) ?_
  intro p e s m below meth c s₁ hx hby hml hown hnm hret hlk hZ X0 e0
  have N0 := Fr.nil n0
  have K0 : Keep h0 h0 [] := Keep.refl h0 _
  refine Go.st (t' := s₁.setTop (mkF m 6 #[.val (.ref a0_), .val (.ref a0_), .unset] [(.int 1)])) (fun target kt => ?_) ?_
  · refine XS.aloadN X0.here hx rfl (hb hby d23_0) rfl rfl ?_
    refine XS.aloadN X0.here hx rfl (hb hby d23_1) rfl rfl ?_
    refine Jvm.RoadKit.acmp (g := (mkF m 2 #[.val (.ref a0_), .val (.ref a0_), .unset] [(.ref a0_), (.ref a0_)])) X0 hx rfl rfl rfl (pc0 := 2) (pc' := 5) (same := true) rfl (hb hby d23_2) rfl (decide_eq_true rfl) (by decide) (by decide) ?_
    refine XS.iconst X0.here hx rfl (hb hby d23_5) ?_
    exact kt
  refine Go.ret X0 (v := some (.int 1)) (fun h => by rw [hret] at h; cases h) hlk (fun fs hr => retN X0 hx (t := .boolean) hret (by simp) (hb hby d23_6) hr) ?_ (by decide) (by decide)
  show Q23_same Z a0_ h0 n0 _ s₁.heap _
  rw [e0]
  exact ⟨rfl, N0, rfl⟩
theorem d23_7 : decode jdk_42_method_66_code 7 = .ok (.aload_n 1, 1) := by decide +kernel
theorem d23_8 : decode jdk_42_method_66_code 8 = .ok (.instanceof 10, 3) := by decide +kernel
theorem d23_11 : decode jdk_42_method_66_code 11 = .ok (.ifCond .eq 43, 3) := by decide +kernel
theorem d23_14 : decode jdk_42_method_66_code 14 = .ok (.aload_n 1, 1) := by decide +kernel
theorem d23_15 : decode jdk_42_method_66_code 15 = .ok (.checkcast 10, 3) := by decide +kernel
theorem d23_18 : decode jdk_42_method_66_code 18 = .ok (.astore_n 2, 1) := by decide +kernel
theorem d23_19 : decode jdk_42_method_66_code 19 = .ok (.getstatic 38, 3) := by decide +kernel
theorem d23_22 : decode jdk_42_method_66_code 22 = .ok (.ifCond .eq 14, 3) := by decide +kernel
theorem d23_25 : decode jdk_42_method_66_code 25 = .ok (.aload_n 0, 1) := by decide +kernel
theorem d23_26 : decode jdk_42_method_66_code 26 = .ok (.getfield 15, 3) := by decide +kernel
theorem d23_29 : decode jdk_42_method_66_code 29 = .ok (.aload_n 2, 1) := by decide +kernel
theorem d23_30 : decode jdk_42_method_66_code 30 = .ok (.getfield 15, 3) := by decide +kernel
theorem d23_33 : decode jdk_42_method_66_code 33 = .ok (.if_icmp .ne 21, 3) := by decide +kernel
theorem d23_36 : decode jdk_42_method_66_code 36 = .ok (.aload_n 0, 1) := by decide +kernel
theorem d23_37 : decode jdk_42_method_66_code 37 = .ok (.getfield 9, 3) := by decide +kernel
theorem d23_40 : decode jdk_42_method_66_code 40 = .ok (.aload_n 2, 1) := by decide +kernel
theorem d23_41 : decode jdk_42_method_66_code 41 = .ok (.getfield 9, 3) := by decide +kernel
theorem d23_44 : decode jdk_42_method_66_code 44 = .ok (.invokestatic 541, 3) := by decide +kernel
theorem tw137 : (Jvm.Cond.methodLink "java/lang/String" (541 : Nat) ({ cls := "java/lang/StringLatin1", name := "equals", desc := "([B[B)Z" } : Jvm.MethodName)) ∈ tables_1 := List.mem_of_getElem? (i := 137) rfl
theorem tw139 : (Jvm.Cond.code ({ cls := "java/lang/StringLatin1", name := "equals", desc := "([B[B)Z" } : Jvm.MethodName) jdk_43_method_13_code (3 : Nat) (Option.some Jvm.ClassFile.FieldType.boolean)) ∈ tables_1 := List.mem_of_getElem? (i := 139) rfl
theorem pd5 : parseMethodDescriptor "([B[B)Z" = some ⟨[(.array .byte), (.array .byte)], some .boolean⟩ := by decide +kernel
theorem tw138 : (Jvm.Cond.static ({ cls := "java/lang/StringLatin1", name := "equals", desc := "([B[B)Z" } : Jvm.MethodName)) ∈ tables_1 := List.mem_of_getElem? (i := 138) rfl
theorem d23_47 : decode jdk_42_method_66_code 47 = .ok (.ifCond .eq 7, 3) := by decide +kernel
theorem d23_50 : decode jdk_42_method_66_code 50 = .ok (.iconst 1, 1) := by decide +kernel
theorem d23_51 : decode jdk_42_method_66_code 51 = .ok (.goto 4, 3) := by decide +kernel
theorem d23_55 : decode jdk_42_method_66_code 55 = .ok (.ireturn, 1) := by decide +kernel
theorem ef23_eq (m : MethodId) (x0 : Addr) (x1 : Addr) : entryFrame m #[(.ref x0), (.ref x1)] 3 = mkF m 0 #[.val (.ref x0), .val (.ref x1), .unset] [] := by first | (simp [entryFrame, mkF, argsToLocals, Value.category]; done) | rfl
def Q23_eq (Z : State) (a0_ : Addr) (a1_ : Addr) (wcs : Int32) (v0 : Addr) (v1 : Addr) (k0 : ClassId) (k1 : ClassId) (x0 : Int32) (x1 : Int32) (h0 : Heap) (n0 : Nat) (v : Option Value) (h : Heap) (L : List Loc) : Prop := v = some (.int 1) ∧ Fr n0 L ∧ h = h0
theorem rm23_eq (l : Launch) (Z : State) (a0 : Array Value) (hw : ∀ d ∈ tables_1, d.before a0 Z = true) (ws : List Jvm.Cond) (a0_ : Addr) (a1_ : Addr) (wcs : Int32) (v0 : Addr) (v1 : Addr) (k0 : ClassId) (k1 : ClassId) (x0 : Int32) (x1 : Int32) (h0 : Heap) (n0 : Nat) (Z0 : n0 ≤ h0.size) (O0 : Old Z n0 h0) (S_CS : Sta Z Z.heap sq2 "COMPACT_STRINGS" "Z" (.int wcs)) (hcs : ¬ (wcs = (0 : Int32))) (E_a0_ : Exa Z h0 a0_ sq2) (Fv_a0_ : Fld Z h0 a0_ sq2 "value" "[B" (.ref v0)) (Fc_a0_ : Fld Z h0 a0_ sq2 "coder" "B" (.int 0)) (E_a1_ : Exa Z h0 a1_ sq2) (Fv_a1_ : Fld Z h0 a1_ sq2 "value" "[B" (.ref v1)) (Fc_a1_ : Fld Z h0 a1_ sq2 "coder" "B" (.int 0)) (V0 : Arv Z h0 v0 k0 .byte (1 : Int32) [(.int x0)] (.int 0)) (V1 : Arv Z h0 v1 k1 .byte (1 : Int32) [(.int x1)] (.int 0)) (hne : a0_ ≠ a1_) (hcd0 : x0 = x1) :
    Met l Z ws (⟨sq2, "equals", "(Ljava/lang/Object;)Z"⟩ : MethodName) jdk_42_method_66_code 3 (some .boolean) (Rm 1 0 0 14) #[(.ref a0_), (.ref a1_)] h0 (Q23_eq Z a0_ a1_ wcs v0 v1 k0 k1 x0 x1 h0 n0) := by
  refine Met.enter (L0 := #[.val (.ref a0_), .val (.ref a1_), .unset]) (plainFor_of_name pn35) (fun m => ef23_eq m a0_ a1_) ?_
  intro p e s m below meth c s₁ hx hby hml hown hnm hret hlk hZ X0 e0
  have N0 := Fr.nil n0
  have K0 : Keep h0 h0 [] := Keep.refl h0 _
  refine Go.st (t' := s₁.setTop (mkF m 8 #[.val (.ref a0_), .val (.ref a1_), .unset] [(.ref a1_)])) (fun target kt => ?_) ?_
  · refine XS.aloadN X0.here hx rfl (hb hby d23_0) rfl rfl ?_
    refine XS.aloadN X0.here hx rfl (hb hby d23_1) rfl rfl ?_
    refine Jvm.RoadKit.acmp (g := (mkF m 2 #[.val (.ref a0_), .val (.ref a1_), .unset] [(.ref a1_), (.ref a0_)])) X0 hx rfl rfl rfl (pc0 := 2) (pc' := 7) (same := false) rfl (hb hby d23_2) rfl (decide_eq_false fun q => hne (Value.ref.inj q)) (by decide) (by decide) ?_
    refine XS.aloadN X0.here hx rfl (hb hby d23_7) rfl rfl ?_
    exact kt
  obtain ⟨T10, X10, e10, st10⟩ := instY X0 hx hZ hown (hw _ tw27) e0 (Ins.self E_a1_) (g := (mkF m 8 #[.val (.ref a0_), .val (.ref a1_), .unset] [(.ref a1_)])) rfl rfl (hb hby d23_8)
  refine Go.st st10 ?_
  show Go _ _ _ _ _ _ _ (T10.setTop (mkF m 11 _ [(.int 1)]))
  refine Go.st (t' := T10.setTop (mkF m 15 #[.val (.ref a0_), .val (.ref a1_), .unset] [(.ref a1_)])) (fun target kt => ?_) ?_
  · refine XS.ifNo X10.here hx rfl (hb hby d23_11) rfl ((if0 _ _).trans (feq (by decide : ¬ ((1 : Int32) = (0 : Int32)))).1) ?_
    refine XS.aloadN X10.here hx rfl (hb hby d23_14) rfl rfl ?_
    exact kt
  obtain ⟨T11, X11, e11, st11⟩ := castY X10 hx hZ hown (hw _ tw27) e10 (Ins.self E_a1_) (g := (mkF m 15 #[.val (.ref a0_), .val (.ref a1_), .unset] [(.ref a1_)])) rfl rfl (hb hby d23_15)
  refine Go.st st11 ?_
  show Go _ _ _ _ _ _ _ (T11.setTop (mkF m 18 _ [(.ref a1_)]))
  refine Go.st (t' := T11.setTop (mkF m 19 #[.val (.ref a0_), .val (.ref a1_), .val (.ref a1_)] [])) (fun target kt => ?_) ?_
  · refine XS.astoreN X11.here hx rfl (hb hby d23_18) rfl rfl (l' := #[.val (.ref a0_), .val (.ref a1_), .val (.ref a1_)]) rfl ?_
    exact kt
  obtain ⟨T12, X12, e12, st12⟩ := getS2 X11 hx hZ hown (host := "") (Or.inl (hw _ tw22)) Via.refl e11 (S_CS.ext O0.2) (g := (mkF m 19 #[.val (.ref a0_), .val (.ref a1_), .val (.ref a1_)] [])) rfl (hb hby d23_19)
  refine Go.st st12 ?_
  show Go _ _ _ _ _ _ _ (T12.setTop (mkF m 22 _ [(.int wcs)]))
  refine Go.st (t' := T12.setTop (mkF m 26 #[.val (.ref a0_), .val (.ref a1_), .val (.ref a1_)] [(.ref a0_)])) (fun target kt => ?_) ?_
  · refine XS.ifNo X12.here hx rfl (hb hby d23_22) rfl ((if0 _ _).trans (feq hcs).1) ?_
    refine XS.aloadN X12.here hx rfl (hb hby d23_25) rfl rfl ?_
    exact kt
  obtain ⟨T13, X13, e13, st13⟩ := getF X12 hx hZ hown (host := "") (Or.inl (hw _ tw40)) Via.refl e12 Fc_a0_ (g := (mkF m 26 #[.val (.ref a0_), .val (.ref a1_), .val (.ref a1_)] [(.ref a0_)])) rfl rfl (hb hby d23_26)
  refine Go.st st13 ?_
  show Go _ _ _ _ _ _ _ (T13.setTop (mkF m 29 _ [(.int 0)]))
  refine Go.st (t' := T13.setTop (mkF m 30 #[.val (.ref a0_), .val (.ref a1_), .val (.ref a1_)] [(.ref a1_), (.int 0)])) (fun target kt => ?_) ?_
  · refine XS.aloadN X13.here hx rfl (hb hby d23_29) rfl rfl ?_
    exact kt
  obtain ⟨T14, X14, e14, st14⟩ := getF X13 hx hZ hown (host := "") (Or.inl (hw _ tw40)) Via.refl e13 Fc_a1_ (g := (mkF m 30 #[.val (.ref a0_), .val (.ref a1_), .val (.ref a1_)] [(.ref a1_), (.int 0)])) rfl rfl (hb hby d23_30)
  refine Go.st st14 ?_
  show Go _ _ _ _ _ _ _ (T14.setTop (mkF m 33 _ [(.int 0), (.int 0)]))
  refine Go.st (t' := T14.setTop (mkF m 37 #[.val (.ref a0_), .val (.ref a1_), .val (.ref a1_)] [(.ref a0_)])) (fun target kt => ?_) ?_
  · refine XS.icmpNo X14.here hx rfl (hb hby d23_33) rfl (teq (by decide : (0 : Int32) = (0 : Int32))).2 ?_
    refine XS.aloadN X14.here hx rfl (hb hby d23_36) rfl rfl ?_
    exact kt
  obtain ⟨T15, X15, e15, st15⟩ := getF X14 hx hZ hown (host := "") (Or.inl (hw _ tw38)) Via.refl e14 Fv_a0_ (g := (mkF m 37 #[.val (.ref a0_), .val (.ref a1_), .val (.ref a1_)] [(.ref a0_)])) rfl rfl (hb hby d23_37)
  refine Go.st st15 ?_
  show Go _ _ _ _ _ _ _ (T15.setTop (mkF m 40 _ [(.ref v0)]))
  refine Go.st (t' := T15.setTop (mkF m 41 #[.val (.ref a0_), .val (.ref a1_), .val (.ref a1_)] [(.ref a1_), (.ref v0)])) (fun target kt => ?_) ?_
  · refine XS.aloadN X15.here hx rfl (hb hby d23_40) rfl rfl ?_
    exact kt
  obtain ⟨T16, X16, e16, st16⟩ := getF X15 hx hZ hown (host := "") (Or.inl (hw _ tw38)) Via.refl e15 Fv_a1_ (g := (mkF m 41 #[.val (.ref a0_), .val (.ref a1_), .val (.ref a1_)] [(.ref a1_), (.ref v0)])) rfl rfl (hb hby d23_41)
  refine Go.st st16 ?_
  show Go _ _ _ _ _ _ _ (T16.setTop (mkF m 44 _ [(.ref v1), (.ref v0)]))
  obtain ⟨_, _, ⟨T17, L17, k17, n17⟩, -, X17, ⟨Lc17, hQ17, l17, y17, z17⟩, st17⟩ := Jvm.LawKit.callS X16 hx (y := (⟨"java/lang/StringLatin1", "equals", "([B[B)Z"⟩ : MethodName)) hown (mvT hZ (hw _ tw137)) (mvT hZ (hw _ tw138)) (mvT hZ (hw _ tw25)) (mvT hZ (hw _ tw139)) (by decide) (backOf (W := 0) (rm24_eq l Z a0 hw [] v0 v1 k0 k1 x0 x1 h0 n0 (Nat.le_trans Z0 K0.1) O0  V0 V1 hcd0) hZ (hw _ tw139) (hw _ tw25) (by decide) (by decide)) (g := (mkF m 44 #[.val (.ref a0_), .val (.ref a1_), .val (.ref a1_)] [(.ref v1), (.ref v0)])) rfl (by rw [hml]; rfl) (argsL := [(.ref v0), (.ref v1)]) (rest := []) (lenOf pd5 rfl) rfl (by show 2 * 0 + _ ≤ _; exact Nat.le_of_eq rfl) (hb hby d23_44) (fun _ _ => ⟨rfl, e16, (by decide : 0 + 0 ≤ _), (by decide : 0 + 0 ≤ _)⟩)
  dsimp only [Pt.U, Pt.locs, Pt.cells, Pt.slots] at X17 l17 y17 z17 st17 hQ17
  subst l17 y17 z17
  obtain ⟨rfl, Nq17, eq17⟩ := hQ17
  have N17 := Fr.app N0 Nq17
  refine Go.st st17 ?_
  show Go _ _ _ _ _ _ _ (T17.setTop (mkF m 47 _ [(.int 1)]))
  refine Go.st (t' := T17.setTop (mkF m 55 #[.val (.ref a0_), .val (.ref a1_), .val (.ref a1_)] [(.int 1)])) (fun target kt => ?_) ?_
  · refine XS.ifNo X17.here hx rfl (hb hby d23_47) rfl ((if0 _ _).trans (feq (by decide : ¬ ((1 : Int32) = (0 : Int32)))).1) ?_
    refine XS.iconst X17.here hx rfl (hb hby d23_50) ?_
    refine XS.goto X17.here hx rfl (pc0 := 51) (pc' := 55) rfl (hb hby d23_51) (by decide) (by decide) ?_
    exact kt
  refine Go.ret X17 (v := some (.int 1)) (fun h => by rw [hret] at h; cases h) hlk (fun fs hr => retN X17 hx (t := .boolean) hret (by simp) (hb hby d23_55) hr) ?_ (by decide) (by decide)
  show Q23_eq Z a0_ a1_ wcs v0 v1 k0 k1 x0 x1 h0 n0 _ T17.heap _
  rw [eq17]
  exact ⟨rfl, N17, rfl⟩
theorem d23_54 : decode jdk_42_method_66_code 54 = .ok (.iconst 0, 1) := by decide +kernel
theorem ef23_ne (m : MethodId) (x0 : Addr) (x1 : Addr) : entryFrame m #[(.ref x0), (.ref x1)] 3 = mkF m 0 #[.val (.ref x0), .val (.ref x1), .unset] [] := by first | (simp [entryFrame, mkF, argsToLocals, Value.category]; done) | rfl
def Q23_ne (Z : State) (a0_ : Addr) (a1_ : Addr) (wcs : Int32) (v0 : Addr) (v1 : Addr) (k0 : ClassId) (k1 : ClassId) (x0 : Int32) (x1 : Int32) (h0 : Heap) (n0 : Nat) (v : Option Value) (h : Heap) (L : List Loc) : Prop := v = some (.int 0) ∧ Fr n0 L ∧ h = h0
theorem rm23_ne (l : Launch) (Z : State) (a0 : Array Value) (hw : ∀ d ∈ tables_1, d.before a0 Z = true) (ws : List Jvm.Cond) (a0_ : Addr) (a1_ : Addr) (wcs : Int32) (v0 : Addr) (v1 : Addr) (k0 : ClassId) (k1 : ClassId) (x0 : Int32) (x1 : Int32) (h0 : Heap) (n0 : Nat) (Z0 : n0 ≤ h0.size) (O0 : Old Z n0 h0) (S_CS : Sta Z Z.heap sq2 "COMPACT_STRINGS" "Z" (.int wcs)) (hcs : ¬ (wcs = (0 : Int32))) (E_a0_ : Exa Z h0 a0_ sq2) (Fv_a0_ : Fld Z h0 a0_ sq2 "value" "[B" (.ref v0)) (Fc_a0_ : Fld Z h0 a0_ sq2 "coder" "B" (.int 0)) (E_a1_ : Exa Z h0 a1_ sq2) (Fv_a1_ : Fld Z h0 a1_ sq2 "value" "[B" (.ref v1)) (Fc_a1_ : Fld Z h0 a1_ sq2 "coder" "B" (.int 0)) (V0 : Arv Z h0 v0 k0 .byte (1 : Int32) [(.int x0)] (.int 0)) (V1 : Arv Z h0 v1 k1 .byte (1 : Int32) [(.int x1)] (.int 0)) (hne : a0_ ≠ a1_) (hcd0 : ¬ (x0 = x1)) :
    Met l Z ws (⟨sq2, "equals", "(Ljava/lang/Object;)Z"⟩ : MethodName) jdk_42_method_66_code 3 (some .boolean) (Rm 1 0 0 14) #[(.ref a0_), (.ref a1_)] h0 (Q23_ne Z a0_ a1_ wcs v0 v1 k0 k1 x0 x1 h0 n0) := by
  refine Met.enter (L0 := #[.val (.ref a0_), .val (.ref a1_), .unset]) (plainFor_of_name pn35) (fun m => ef23_ne m a0_ a1_) ?_
  intro p e s m below meth c s₁ hx hby hml hown hnm hret hlk hZ X0 e0
  have N0 := Fr.nil n0
  have K0 : Keep h0 h0 [] := Keep.refl h0 _
  refine Go.st (t' := s₁.setTop (mkF m 8 #[.val (.ref a0_), .val (.ref a1_), .unset] [(.ref a1_)])) (fun target kt => ?_) ?_
  · refine XS.aloadN X0.here hx rfl (hb hby d23_0) rfl rfl ?_
    refine XS.aloadN X0.here hx rfl (hb hby d23_1) rfl rfl ?_
    refine Jvm.RoadKit.acmp (g := (mkF m 2 #[.val (.ref a0_), .val (.ref a1_), .unset] [(.ref a1_), (.ref a0_)])) X0 hx rfl rfl rfl (pc0 := 2) (pc' := 7) (same := false) rfl (hb hby d23_2) rfl (decide_eq_false fun q => hne (Value.ref.inj q)) (by decide) (by decide) ?_
    refine XS.aloadN X0.here hx rfl (hb hby d23_7) rfl rfl ?_
    exact kt
  obtain ⟨T10, X10, e10, st10⟩ := instY X0 hx hZ hown (hw _ tw27) e0 (Ins.self E_a1_) (g := (mkF m 8 #[.val (.ref a0_), .val (.ref a1_), .unset] [(.ref a1_)])) rfl rfl (hb hby d23_8)
  refine Go.st st10 ?_
  show Go _ _ _ _ _ _ _ (T10.setTop (mkF m 11 _ [(.int 1)]))
  refine Go.st (t' := T10.setTop (mkF m 15 #[.val (.ref a0_), .val (.ref a1_), .unset] [(.ref a1_)])) (fun target kt => ?_) ?_
  · refine XS.ifNo X10.here hx rfl (hb hby d23_11) rfl ((if0 _ _).trans (feq (by decide : ¬ ((1 : Int32) = (0 : Int32)))).1) ?_
    refine XS.aloadN X10.here hx rfl (hb hby d23_14) rfl rfl ?_
    exact kt
  obtain ⟨T11, X11, e11, st11⟩ := castY X10 hx hZ hown (hw _ tw27) e10 (Ins.self E_a1_) (g := (mkF m 15 #[.val (.ref a0_), .val (.ref a1_), .unset] [(.ref a1_)])) rfl rfl (hb hby d23_15)
  refine Go.st st11 ?_
  show Go _ _ _ _ _ _ _ (T11.setTop (mkF m 18 _ [(.ref a1_)]))
  refine Go.st (t' := T11.setTop (mkF m 19 #[.val (.ref a0_), .val (.ref a1_), .val (.ref a1_)] [])) (fun target kt => ?_) ?_
  · refine XS.astoreN X11.here hx rfl (hb hby d23_18) rfl rfl (l' := #[.val (.ref a0_), .val (.ref a1_), .val (.ref a1_)]) rfl ?_
    exact kt
  obtain ⟨T12, X12, e12, st12⟩ := getS2 X11 hx hZ hown (host := "") (Or.inl (hw _ tw22)) Via.refl e11 (S_CS.ext O0.2) (g := (mkF m 19 #[.val (.ref a0_), .val (.ref a1_), .val (.ref a1_)] [])) rfl (hb hby d23_19)
  refine Go.st st12 ?_
  show Go _ _ _ _ _ _ _ (T12.setTop (mkF m 22 _ [(.int wcs)]))
  refine Go.st (t' := T12.setTop (mkF m 26 #[.val (.ref a0_), .val (.ref a1_), .val (.ref a1_)] [(.ref a0_)])) (fun target kt => ?_) ?_
  · refine XS.ifNo X12.here hx rfl (hb hby d23_22) rfl ((if0 _ _).trans (feq hcs).1) ?_
    refine XS.aloadN X12.here hx rfl (hb hby d23_25) rfl rfl ?_
    exact kt
  obtain ⟨T13, X13, e13, st13⟩ := getF X12 hx hZ hown (host := "") (Or.inl (hw _ tw40)) Via.refl e12 Fc_a0_ (g := (mkF m 26 #[.val (.ref a0_), .val (.ref a1_), .val (.ref a1_)] [(.ref a0_)])) rfl rfl (hb hby d23_26)
  refine Go.st st13 ?_
  show Go _ _ _ _ _ _ _ (T13.setTop (mkF m 29 _ [(.int 0)]))
  refine Go.st (t' := T13.setTop (mkF m 30 #[.val (.ref a0_), .val (.ref a1_), .val (.ref a1_)] [(.ref a1_), (.int 0)])) (fun target kt => ?_) ?_
  · refine XS.aloadN X13.here hx rfl (hb hby d23_29) rfl rfl ?_
    exact kt
  obtain ⟨T14, X14, e14, st14⟩ := getF X13 hx hZ hown (host := "") (Or.inl (hw _ tw40)) Via.refl e13 Fc_a1_ (g := (mkF m 30 #[.val (.ref a0_), .val (.ref a1_), .val (.ref a1_)] [(.ref a1_), (.int 0)])) rfl rfl (hb hby d23_30)
  refine Go.st st14 ?_
  show Go _ _ _ _ _ _ _ (T14.setTop (mkF m 33 _ [(.int 0), (.int 0)]))
  refine Go.st (t' := T14.setTop (mkF m 37 #[.val (.ref a0_), .val (.ref a1_), .val (.ref a1_)] [(.ref a0_)])) (fun target kt => ?_) ?_
  · refine XS.icmpNo X14.here hx rfl (hb hby d23_33) rfl (teq (by decide : (0 : Int32) = (0 : Int32))).2 ?_
    refine XS.aloadN X14.here hx rfl (hb hby d23_36) rfl rfl ?_
    exact kt
  obtain ⟨T15, X15, e15, st15⟩ := getF X14 hx hZ hown (host := "") (Or.inl (hw _ tw38)) Via.refl e14 Fv_a0_ (g := (mkF m 37 #[.val (.ref a0_), .val (.ref a1_), .val (.ref a1_)] [(.ref a0_)])) rfl rfl (hb hby d23_37)
  refine Go.st st15 ?_
  show Go _ _ _ _ _ _ _ (T15.setTop (mkF m 40 _ [(.ref v0)]))
  refine Go.st (t' := T15.setTop (mkF m 41 #[.val (.ref a0_), .val (.ref a1_), .val (.ref a1_)] [(.ref a1_), (.ref v0)])) (fun target kt => ?_) ?_
  · refine XS.aloadN X15.here hx rfl (hb hby d23_40) rfl rfl ?_
    exact kt
  obtain ⟨T16, X16, e16, st16⟩ := getF X15 hx hZ hown (host := "") (Or.inl (hw _ tw38)) Via.refl e15 Fv_a1_ (g := (mkF m 41 #[.val (.ref a0_), .val (.ref a1_), .val (.ref a1_)] [(.ref a1_), (.ref v0)])) rfl rfl (hb hby d23_41)
  refine Go.st st16 ?_
  show Go _ _ _ _ _ _ _ (T16.setTop (mkF m 44 _ [(.ref v1), (.ref v0)]))
  obtain ⟨_, _, ⟨T17, L17, k17, n17⟩, -, X17, ⟨Lc17, hQ17, l17, y17, z17⟩, st17⟩ := Jvm.LawKit.callS X16 hx (y := (⟨"java/lang/StringLatin1", "equals", "([B[B)Z"⟩ : MethodName)) hown (mvT hZ (hw _ tw137)) (mvT hZ (hw _ tw138)) (mvT hZ (hw _ tw25)) (mvT hZ (hw _ tw139)) (by decide) (backOf (W := 0) (rm24_ne l Z a0 hw [] v0 v1 k0 k1 x0 x1 h0 n0 (Nat.le_trans Z0 K0.1) O0  V0 V1 hcd0) hZ (hw _ tw139) (hw _ tw25) (by decide) (by decide)) (g := (mkF m 44 #[.val (.ref a0_), .val (.ref a1_), .val (.ref a1_)] [(.ref v1), (.ref v0)])) rfl (by rw [hml]; rfl) (argsL := [(.ref v0), (.ref v1)]) (rest := []) (lenOf pd5 rfl) rfl (by show 2 * 0 + _ ≤ _; exact Nat.le_of_eq rfl) (hb hby d23_44) (fun _ _ => ⟨rfl, e16, (by decide : 0 + 0 ≤ _), (by decide : 0 + 0 ≤ _)⟩)
  dsimp only [Pt.U, Pt.locs, Pt.cells, Pt.slots] at X17 l17 y17 z17 st17 hQ17
  subst l17 y17 z17
  obtain ⟨rfl, Nq17, eq17⟩ := hQ17
  have N17 := Fr.app N0 Nq17
  refine Go.st st17 ?_
  show Go _ _ _ _ _ _ _ (T17.setTop (mkF m 47 _ [(.int 0)]))
  refine Go.st (t' := T17.setTop (mkF m 55 #[.val (.ref a0_), .val (.ref a1_), .val (.ref a1_)] [(.int 0)])) (fun target kt => ?_) ?_
  · refine XS.ifYes X17.here hx rfl (pc0 := 47) (pc' := 54) rfl (hb hby d23_47) rfl ((if0 _ _).trans (teq (by decide : (0 : Int32) = (0 : Int32))).1) (by decide) (by decide) ?_
    refine XS.iconst X17.here hx rfl (hb hby d23_54) ?_
    exact kt
  refine Go.ret X17 (v := some (.int 0)) (fun h => by rw [hret] at h; cases h) hlk (fun fs hr => retN X17 hx (t := .boolean) hret (by simp) (hb hby d23_55) hr) ?_ (by decide) (by decide)
  show Q23_ne Z a0_ a1_ wcs v0 v1 k0 k1 x0 x1 h0 n0 _ T17.heap _
  rw [eq17]
  exact ⟨rfl, N17, rfl⟩
theorem tw85 : (Jvm.Cond.selects "[Ljava/lang/Object;" ({ cls := "java/lang/Object", name := "getClass", desc := "()Ljava/lang/Class;" } : Jvm.MethodName) ({ cls := "java/lang/Object", name := "getClass", desc := "()Ljava/lang/Class;" } : Jvm.MethodName)) ∈ tables_1 := List.mem_of_getElem? (i := 85) rfl
theorem tw84 : (Jvm.Cond.instanceMethod ({ cls := "java/lang/Object", name := "getClass", desc := "()Ljava/lang/Class;" } : Jvm.MethodName)) ∈ tables_1 := List.mem_of_getElem? (i := 84) rfl
theorem d11_0 : decode prog_14_method_11_code 0 = .ok (.aload_n 1, 1) := by decide +kernel
theorem d11_1 : decode prog_14_method_11_code 1 = .ok (.instanceof 69, 3) := by decide +kernel
theorem tw65 : (Jvm.Cond.classLink "com/example/graphweave/graphweave/json/JsonObject" (69 : Nat) "java/lang/String") ∈ tables_1 := List.mem_of_getElem? (i := 65) rfl
theorem d11_4 : decode prog_14_method_11_code 4 = .ok (.ifCond .ne 5, 3) := by decide +kernel
theorem d11_9 : decode prog_14_method_11_code 9 = .ok (.aload_n 0, 1) := by decide +kernel
theorem d11_10 : decode prog_14_method_11_code 10 = .ok (.getfield 38, 3) := by decide +kernel
theorem tw66 : (Jvm.Cond.fieldLink "com/example/graphweave/graphweave/json/JsonObject" (38 : Nat) "com/example/graphweave/graphweave/json/JsonObject" "index" "[I") ∈ tables_1 := List.mem_of_getElem? (i := 66) rfl
theorem d11_13 : decode prog_14_method_11_code 13 = .ok (.ifnonnull 38, 3) := by decide +kernel
theorem d11_16 : decode prog_14_method_11_code 16 = .ok (.iconst 0, 1) := by decide +kernel
theorem d11_17 : decode prog_14_method_11_code 17 = .ok (.istore_n 2, 1) := by decide +kernel
theorem d11_18 : decode prog_14_method_11_code 18 = .ok (.iload_n 2, 1) := by decide +kernel
theorem d11_19 : decode prog_14_method_11_code 19 = .ok (.aload_n 0, 1) := by decide +kernel
theorem d11_20 : decode prog_14_method_11_code 20 = .ok (.getfield 16, 3) := by decide +kernel
theorem tw68 : (Jvm.Cond.fieldLink "com/example/graphweave/graphweave/json/JsonObject" (16 : Nat) "com/example/graphweave/graphweave/json/JsonObject" "size" "I") ∈ tables_1 := List.mem_of_getElem? (i := 68) rfl
theorem d11_23 : decode prog_14_method_11_code 23 = .ok (.if_icmp .ge 26, 3) := by decide +kernel
theorem d11_49 : decode prog_14_method_11_code 49 = .ok (.iconst (-1), 1) := by decide +kernel
theorem d11_50 : decode prog_14_method_11_code 50 = .ok (.ireturn, 1) := by decide +kernel
theorem ef11_none_0_0 (m : MethodId) (x0 : Addr) (x1 : Addr) : entryFrame m #[(.ref x0), (.ref x1)] 5 = mkF m 0 #[.val (.ref x0), .val (.ref x1), .unset, .unset, .unset] [] := by first | (simp [entryFrame, mkF, argsToLocals, Value.category]; done) | rfl
def Q11_none_0_0 (Z : State) (a0_ : Addr) (a1_ : Addr) (pch : Int32) (wcs : Int32) (wn : Addr) (kn : ClassId) (h0 : Heap) (n0 : Nat) (v : Option Value) (h : Heap) (L : List Loc) : Prop := v = some (.int (-1)) ∧ Fr n0 L ∧ h = h0
theorem rm11_none_0_0 (l : Launch) (Z : State) (a0 : Array Value) (hw : ∀ d ∈ tables_1, d.before a0 Z = true) (ws : List Jvm.Cond) (a0_ : Addr) (a1_ : Addr) (pch : Int32) (wcs : Int32) (wn : Addr) (kn : ClassId) (h0 : Heap) (n0 : Nat) (Z0 : n0 ≤ h0.size) (O0 : Old Z n0 h0) (S_CS : Sta Z Z.heap sq2 "COMPACT_STRINGS" "Z" (.int wcs)) (hcs : ¬ (wcs = (0 : Int32))) (S_NM : Sta Z Z.heap sq0 "NO_MEMBERS" sq3 (.ref wn)) (E_wn : Exa Z Z.heap wn sq3) (V_wn : Arv Z Z.heap wn kn (.object sq1) (0 : Int32) [] .null) (E0 : Exa Z h0 a0_ sq0) (F_m : Fld Z h0 a0_ sq0 "members" sq3 (.ref wn)) (F_i : Fld Z h0 a0_ sq0 "index" "[I" .null) (F_s : Fld Z h0 a0_ sq0 "size" "I" (.int 0)) (F_c : Fld Z h0 a0_ sq0 "changes" "I" (.int pch)) (E_a1 : Exa Z h0 a1_ sq2) :
    Met l Z ws (⟨sq0, "find", "(Ljava/lang/Object;)I"⟩ : MethodName) prog_14_method_11_code 5 (some .int) (Rm 0 0 0 0) #[(.ref a0_), (.ref a1_)] h0 (Q11_none_0_0 Z a0_ a1_ pch wcs wn kn h0 n0) := by
  refine Met.enter (L0 := #[.val (.ref a0_), .val (.ref a1_), .unset, .unset, .unset]) (plainFor_of_name pn10) (fun m => ef11_none_0_0 m a0_ a1_) ?_
  intro p e s m below meth c s₁ hx hby hml hown hnm hret hlk hZ X0 e0
  have N0 := Fr.nil n0
  have K0 : Keep h0 h0 [] := Keep.refl h0 _
  refine Go.st (t' := s₁.setTop (mkF m 1 #[.val (.ref a0_), .val (.ref a1_), .unset, .unset, .unset] [(.ref a1_)])) (fun target kt => ?_) ?_
  · refine XS.aloadN X0.here hx rfl (hb hby d11_0) rfl rfl ?_
    exact kt
  obtain ⟨T10, X10, e10, st10⟩ := instY X0 hx hZ hown (hw _ tw65) e0 (Ins.self E_a1) (g := (mkF m 1 #[.val (.ref a0_), .val (.ref a1_), .unset, .unset, .unset] [(.ref a1_)])) rfl rfl (hb hby d11_1)
  refine Go.st st10 ?_
  show Go _ _ _ _ _ _ _ (T10.setTop (mkF m 4 _ [(.int 1)]))
  refine Go.st (t' := T10.setTop (mkF m 10 #[.val (.ref a0_), .val (.ref a1_), .unset, .unset, .unset] [(.ref a0_)])) (fun target kt => ?_) ?_
  · refine XS.ifYes X10.here hx rfl (pc0 := 4) (pc' := 9) rfl (hb hby d11_4) rfl ((if0 _ _).trans (feq (by decide : ¬ ((1 : Int32) = (0 : Int32)))).2) (by decide) (by decide) ?_
    refine XS.aloadN X10.here hx rfl (hb hby d11_9) rfl rfl ?_
    exact kt
  obtain ⟨T11, X11, e11, st11⟩ := getF X10 hx hZ hown (host := "") (Or.inl (hw _ tw66)) Via.refl e10 F_i (g := (mkF m 10 #[.val (.ref a0_), .val (.ref a1_), .unset, .unset, .unset] [(.ref a0_)])) rfl rfl (hb hby d11_10)
  refine Go.st st11 ?_
  show Go _ _ _ _ _ _ _ (T11.setTop (mkF m 13 _ [.null]))
  refine Go.st (t' := T11.setTop (mkF m 20 #[.val (.ref a0_), .val (.ref a1_), .val (.int 0), .unset, .unset] [(.ref a0_), (.int 0)])) (fun target kt => ?_) ?_
  · refine XS.ifnonnullNo X11.here hx rfl (hb hby d11_13) rfl ?_
    refine XS.iconst X11.here hx rfl (hb hby d11_16) ?_
    refine XS.istoreN X11.here hx rfl (hb hby d11_17) rfl (l' := #[.val (.ref a0_), .val (.ref a1_), .val (.int 0), .unset, .unset]) rfl ?_
    refine XS.iloadN X11.here hx rfl (hb hby d11_18) rfl ?_
    refine XS.aloadN X11.here hx rfl (hb hby d11_19) rfl rfl ?_
    exact kt
  obtain ⟨T12, X12, e12, st12⟩ := getF X11 hx hZ hown (host := "") (Or.inl (hw _ tw68)) Via.refl e11 F_s (g := (mkF m 20 #[.val (.ref a0_), .val (.ref a1_), .val (.int 0), .unset, .unset] [(.ref a0_), (.int 0)])) rfl rfl (hb hby d11_20)
  refine Go.st st12 ?_
  show Go _ _ _ _ _ _ _ (T12.setTop (mkF m 23 _ [(.int 0), (.int 0)]))
  refine Go.st (t' := T12.setTop (mkF m 50 #[.val (.ref a0_), .val (.ref a1_), .val (.int 0), .unset, .unset] [(.int (-1))])) (fun target kt => ?_) ?_
  · refine XS.icmpYes X12.here hx rfl (pc0 := 23) (pc' := 49) rfl (hb hby d11_23) rfl (flt (by decide : ¬ ((0 : Int32) < (0 : Int32)))).2.1 (by decide) (by decide) ?_
    refine XS.iconst X12.here hx rfl (hb hby d11_49) ?_
    exact kt
  refine Go.ret X12 (v := some (.int (-1))) (fun h => by rw [hret] at h; cases h) hlk (fun fs hr => retI X12 hx hret (hb hby d11_50) hr) ?_ (by decide) (by decide)
  show Q11_none_0_0 Z a0_ a1_ pch wcs wn kn h0 n0 _ T12.heap _
  rw [e12]
  exact ⟨rfl, N0, rfl⟩
theorem ef11_none_0_4 (m : MethodId) (x0 : Addr) (x1 : Addr) : entryFrame m #[(.ref x0), (.ref x1)] 5 = mkF m 0 #[.val (.ref x0), .val (.ref x1), .unset, .unset, .unset] [] := by first | (simp [entryFrame, mkF, argsToLocals, Value.category]; done) | rfl
def Q11_none_0_4 (Z : State) (a0_ : Addr) (a1_ : Addr) (pch : Int32) (wcs : Int32) (am : Addr) (km : ClassId) (h0 : Heap) (n0 : Nat) (v : Option Value) (h : Heap) (L : List Loc) : Prop := v = some (.int (-1)) ∧ Fr n0 L ∧ h = h0
theorem rm11_none_0_4 (l : Launch) (Z : State) (a0 : Array Value) (hw : ∀ d ∈ tables_1, d.before a0 Z = true) (ws : List Jvm.Cond) (a0_ : Addr) (a1_ : Addr) (pch : Int32) (wcs : Int32) (am : Addr) (km : ClassId) (h0 : Heap) (n0 : Nat) (Z0 : n0 ≤ h0.size) (O0 : Old Z n0 h0) (S_CS : Sta Z Z.heap sq2 "COMPACT_STRINGS" "Z" (.int wcs)) (hcs : ¬ (wcs = (0 : Int32))) (E0 : Exa Z h0 a0_ sq0) (F_m : Fld Z h0 a0_ sq0 "members" sq3 (.ref am)) (F_i : Fld Z h0 a0_ sq0 "index" "[I" .null) (F_s : Fld Z h0 a0_ sq0 "size" "I" (.int 0)) (F_c : Fld Z h0 a0_ sq0 "changes" "I" (.int pch)) (E_m : Exa Z h0 am sq3) (V_m : Arv Z h0 am km (.object sq1) (4 : Int32) [.null, .null, .null, .null] .null) (E_a1 : Exa Z h0 a1_ sq2) :
    Met l Z ws (⟨sq0, "find", "(Ljava/lang/Object;)I"⟩ : MethodName) prog_14_method_11_code 5 (some .int) (Rm 0 0 0 0) #[(.ref a0_), (.ref a1_)] h0 (Q11_none_0_4 Z a0_ a1_ pch wcs am km h0 n0) := by
  refine Met.enter (L0 := #[.val (.ref a0_), .val (.ref a1_), .unset, .unset, .unset]) (plainFor_of_name pn10) (fun m => ef11_none_0_4 m a0_ a1_) ?_
  intro p e s m below meth c s₁ hx hby hml hown hnm hret hlk hZ X0 e0
  have N0 := Fr.nil n0
  have K0 : Keep h0 h0 [] := Keep.refl h0 _
  refine Go.st (t' := s₁.setTop (mkF m 1 #[.val (.ref a0_), .val (.ref a1_), .unset, .unset, .unset] [(.ref a1_)])) (fun target kt => ?_) ?_
  · refine XS.aloadN X0.here hx rfl (hb hby d11_0) rfl rfl ?_
    exact kt
  obtain ⟨T10, X10, e10, st10⟩ := instY X0 hx hZ hown (hw _ tw65) e0 (Ins.self E_a1) (g := (mkF m 1 #[.val (.ref a0_), .val (.ref a1_), .unset, .unset, .unset] [(.ref a1_)])) rfl rfl (hb hby d11_1)
  refine Go.st st10 ?_
  show Go _ _ _ _ _ _ _ (T10.setTop (mkF m 4 _ [(.int 1)]))
  refine Go.st (t' := T10.setTop (mkF m 10 #[.val (.ref a0_), .val (.ref a1_), .unset, .unset, .unset] [(.ref a0_)])) (fun target kt => ?_) ?_
  · refine XS.ifYes X10.here hx rfl (pc0 := 4) (pc' := 9) rfl (hb hby d11_4) rfl ((if0 _ _).trans (feq (by decide : ¬ ((1 : Int32) = (0 : Int32)))).2) (by decide) (by decide) ?_
    refine XS.aloadN X10.here hx rfl (hb hby d11_9) rfl rfl ?_
    exact kt
  obtain ⟨T11, X11, e11, st11⟩ := getF X10 hx hZ hown (host := "") (Or.inl (hw _ tw66)) Via.refl e10 F_i (g := (mkF m 10 #[.val (.ref a0_), .val (.ref a1_), .unset, .unset, .unset] [(.ref a0_)])) rfl rfl (hb hby d11_10)
  refine Go.st st11 ?_
  show Go _ _ _ _ _ _ _ (T11.setTop (mkF m 13 _ [.null]))
  refine Go.st (t' := T11.setTop (mkF m 20 #[.val (.ref a0_), .val (.ref a1_), .val (.int 0), .unset, .unset] [(.ref a0_), (.int 0)])) (fun target kt => ?_) ?_
  · refine XS.ifnonnullNo X11.here hx rfl (hb hby d11_13) rfl ?_
    refine XS.iconst X11.here hx rfl (hb hby d11_16) ?_
    refine XS.istoreN X11.here hx rfl (hb hby d11_17) rfl (l' := #[.val (.ref a0_), .val (.ref a1_), .val (.int 0), .unset, .unset]) rfl ?_
    refine XS.iloadN X11.here hx rfl (hb hby d11_18) rfl ?_
    refine XS.aloadN X11.here hx rfl (hb hby d11_19) rfl rfl ?_
    exact kt
  obtain ⟨T12, X12, e12, st12⟩ := getF X11 hx hZ hown (host := "") (Or.inl (hw _ tw68)) Via.refl e11 F_s (g := (mkF m 20 #[.val (.ref a0_), .val (.ref a1_), .val (.int 0), .unset, .unset] [(.ref a0_), (.int 0)])) rfl rfl (hb hby d11_20)
  refine Go.st st12 ?_
  show Go _ _ _ _ _ _ _ (T12.setTop (mkF m 23 _ [(.int 0), (.int 0)]))
  refine Go.st (t' := T12.setTop (mkF m 50 #[.val (.ref a0_), .val (.ref a1_), .val (.int 0), .unset, .unset] [(.int (-1))])) (fun target kt => ?_) ?_
  · refine XS.icmpYes X12.here hx rfl (pc0 := 23) (pc' := 49) rfl (hb hby d11_23) rfl (flt (by decide : ¬ ((0 : Int32) < (0 : Int32)))).2.1 (by decide) (by decide) ?_
    refine XS.iconst X12.here hx rfl (hb hby d11_49) ?_
    exact kt
  refine Go.ret X12 (v := some (.int (-1))) (fun h => by rw [hret] at h; cases h) hlk (fun fs hr => retI X12 hx hret (hb hby d11_50) hr) ?_ (by decide) (by decide)
  show Q11_none_0_4 Z a0_ a1_ pch wcs am km h0 n0 _ T12.heap _
  rw [e12]
  exact ⟨rfl, N0, rfl⟩
theorem ef11_none_0_6 (m : MethodId) (x0 : Addr) (x1 : Addr) : entryFrame m #[(.ref x0), (.ref x1)] 5 = mkF m 0 #[.val (.ref x0), .val (.ref x1), .unset, .unset, .unset] [] := by first | (simp [entryFrame, mkF, argsToLocals, Value.category]; done) | rfl
def Q11_none_0_6 (Z : State) (a0_ : Addr) (a1_ : Addr) (pch : Int32) (wcs : Int32) (am : Addr) (km : ClassId) (h0 : Heap) (n0 : Nat) (v : Option Value) (h : Heap) (L : List Loc) : Prop := v = some (.int (-1)) ∧ Fr n0 L ∧ h = h0
theorem rm11_none_0_6 (l : Launch) (Z : State) (a0 : Array Value) (hw : ∀ d ∈ tables_1, d.before a0 Z = true) (ws : List Jvm.Cond) (a0_ : Addr) (a1_ : Addr) (pch : Int32) (wcs : Int32) (am : Addr) (km : ClassId) (h0 : Heap) (n0 : Nat) (Z0 : n0 ≤ h0.size) (O0 : Old Z n0 h0) (S_CS : Sta Z Z.heap sq2 "COMPACT_STRINGS" "Z" (.int wcs)) (hcs : ¬ (wcs = (0 : Int32))) (E0 : Exa Z h0 a0_ sq0) (F_m : Fld Z h0 a0_ sq0 "members" sq3 (.ref am)) (F_i : Fld Z h0 a0_ sq0 "index" "[I" .null) (F_s : Fld Z h0 a0_ sq0 "size" "I" (.int 0)) (F_c : Fld Z h0 a0_ sq0 "changes" "I" (.int pch)) (E_m : Exa Z h0 am sq3) (V_m : Arv Z h0 am km (.object sq1) (6 : Int32) [.null, .null, .null, .null, .null, .null] .null) (E_a1 : Exa Z h0 a1_ sq2) :
    Met l Z ws (⟨sq0, "find", "(Ljava/lang/Object;)I"⟩ : MethodName) prog_14_method_11_code 5 (some .int) (Rm 0 0 0 0) #[(.ref a0_), (.ref a1_)] h0 (Q11_none_0_6 Z a0_ a1_ pch wcs am km h0 n0) := by
  refine Met.enter (L0 := #[.val (.ref a0_), .val (.ref a1_), .unset, .unset, .unset]) (plainFor_of_name pn10) (fun m => ef11_none_0_6 m a0_ a1_) ?_
  intro p e s m below meth c s₁ hx hby hml hown hnm hret hlk hZ X0 e0
  have N0 := Fr.nil n0
  have K0 : Keep h0 h0 [] := Keep.refl h0 _
  refine Go.st (t' := s₁.setTop (mkF m 1 #[.val (.ref a0_), .val (.ref a1_), .unset, .unset, .unset] [(.ref a1_)])) (fun target kt => ?_) ?_
  · refine XS.aloadN X0.here hx rfl (hb hby d11_0) rfl rfl ?_
    exact kt
  obtain ⟨T10, X10, e10, st10⟩ := instY X0 hx hZ hown (hw _ tw65) e0 (Ins.self E_a1) (g := (mkF m 1 #[.val (.ref a0_), .val (.ref a1_), .unset, .unset, .unset] [(.ref a1_)])) rfl rfl (hb hby d11_1)
  refine Go.st st10 ?_
  show Go _ _ _ _ _ _ _ (T10.setTop (mkF m 4 _ [(.int 1)]))
  refine Go.st (t' := T10.setTop (mkF m 10 #[.val (.ref a0_), .val (.ref a1_), .unset, .unset, .unset] [(.ref a0_)])) (fun target kt => ?_) ?_
  · refine XS.ifYes X10.here hx rfl (pc0 := 4) (pc' := 9) rfl (hb hby d11_4) rfl ((if0 _ _).trans (feq (by decide : ¬ ((1 : Int32) = (0 : Int32)))).2) (by decide) (by decide) ?_
    refine XS.aloadN X10.here hx rfl (hb hby d11_9) rfl rfl ?_
    exact kt
  obtain ⟨T11, X11, e11, st11⟩ := getF X10 hx hZ hown (host := "") (Or.inl (hw _ tw66)) Via.refl e10 F_i (g := (mkF m 10 #[.val (.ref a0_), .val (.ref a1_), .unset, .unset, .unset] [(.ref a0_)])) rfl rfl (hb hby d11_10)
  refine Go.st st11 ?_
  show Go _ _ _ _ _ _ _ (T11.setTop (mkF m 13 _ [.null]))
  refine Go.st (t' := T11.setTop (mkF m 20 #[.val (.ref a0_), .val (.ref a1_), .val (.int 0), .unset, .unset] [(.ref a0_), (.int 0)])) (fun target kt => ?_) ?_
  · refine XS.ifnonnullNo X11.here hx rfl (hb hby d11_13) rfl ?_
    refine XS.iconst X11.here hx rfl (hb hby d11_16) ?_
    refine XS.istoreN X11.here hx rfl (hb hby d11_17) rfl (l' := #[.val (.ref a0_), .val (.ref a1_), .val (.int 0), .unset, .unset]) rfl ?_
    refine XS.iloadN X11.here hx rfl (hb hby d11_18) rfl ?_
    refine XS.aloadN X11.here hx rfl (hb hby d11_19) rfl rfl ?_
    exact kt
  obtain ⟨T12, X12, e12, st12⟩ := getF X11 hx hZ hown (host := "") (Or.inl (hw _ tw68)) Via.refl e11 F_s (g := (mkF m 20 #[.val (.ref a0_), .val (.ref a1_), .val (.int 0), .unset, .unset] [(.ref a0_), (.int 0)])) rfl rfl (hb hby d11_20)
  refine Go.st st12 ?_
  show Go _ _ _ _ _ _ _ (T12.setTop (mkF m 23 _ [(.int 0), (.int 0)]))
  refine Go.st (t' := T12.setTop (mkF m 50 #[.val (.ref a0_), .val (.ref a1_), .val (.int 0), .unset, .unset] [(.int (-1))])) (fun target kt => ?_) ?_
  · refine XS.icmpYes X12.here hx rfl (pc0 := 23) (pc' := 49) rfl (hb hby d11_23) rfl (flt (by decide : ¬ ((0 : Int32) < (0 : Int32)))).2.1 (by decide) (by decide) ?_
    refine XS.iconst X12.here hx rfl (hb hby d11_49) ?_
    exact kt
  refine Go.ret X12 (v := some (.int (-1))) (fun h => by rw [hret] at h; cases h) hlk (fun fs hr => retI X12 hx hret (hb hby d11_50) hr) ?_ (by decide) (by decide)
  show Q11_none_0_6 Z a0_ a1_ pch wcs am km h0 n0 _ T12.heap _
  rw [e12]
  exact ⟨rfl, N0, rfl⟩
theorem d11_26 : decode prog_14_method_11_code 26 = .ok (.aload_n 1, 1) := by decide +kernel
theorem d11_27 : decode prog_14_method_11_code 27 = .ok (.aload_n 0, 1) := by decide +kernel
theorem d11_28 : decode prog_14_method_11_code 28 = .ok (.getfield 13, 3) := by decide +kernel
theorem d11_31 : decode prog_14_method_11_code 31 = .ok (.iconst 2, 1) := by decide +kernel
theorem d11_32 : decode prog_14_method_11_code 32 = .ok (.iload_n 2, 1) := by decide +kernel
theorem d11_33 : decode prog_14_method_11_code 33 = .ok (.imul, 1) := by decide +kernel
theorem d11_34 : decode prog_14_method_11_code 34 = .ok (.aaload, 1) := by decide +kernel
theorem d11_35 : decode prog_14_method_11_code 35 = .ok (.invokevirtual 71, 3) := by decide +kernel
theorem tw131 : (Jvm.Cond.methodLink "com/example/graphweave/graphweave/json/JsonObject" (71 : Nat) ({ cls := "java/lang/Object", name := "equals", desc := "(Ljava/lang/Object;)Z" } : Jvm.MethodName)) ∈ tables_1 := List.mem_of_getElem? (i := 131) rfl
theorem tw136 : (Jvm.Cond.code ({ cls := "java/lang/String", name := "equals", desc := "(Ljava/lang/Object;)Z" } : Jvm.MethodName) jdk_42_method_66_code (3 : Nat) (Option.some Jvm.ClassFile.FieldType.boolean)) ∈ tables_1 := List.mem_of_getElem? (i := 136) rfl
theorem pd6 : parseMethodDescriptor "(Ljava/lang/Object;)Z" = some ⟨[(.object "java/lang/Object")], some .boolean⟩ := by decide +kernel
theorem tw134 : (Jvm.Cond.selects "java/lang/String" ({ cls := "java/lang/Object", name := "equals", desc := "(Ljava/lang/Object;)Z" } : Jvm.MethodName) ({ cls := "java/lang/String", name := "equals", desc := "(Ljava/lang/Object;)Z" } : Jvm.MethodName)) ∈ tables_1 := List.mem_of_getElem? (i := 134) rfl
theorem tw132 : (Jvm.Cond.declares ({ cls := "java/lang/Object", name := "equals", desc := "(Ljava/lang/Object;)Z" } : Jvm.MethodName)) ∈ tables_1 := List.mem_of_getElem? (i := 132) rfl
theorem tw135 : (Jvm.Cond.instanceMethod ({ cls := "java/lang/String", name := "equals", desc := "(Ljava/lang/Object;)Z" } : Jvm.MethodName)) ∈ tables_1 := List.mem_of_getElem? (i := 135) rfl
theorem d11_38 : decode prog_14_method_11_code 38 = .ok (.ifCond .eq 5, 3) := by decide +kernel
theorem d11_41 : decode prog_14_method_11_code 41 = .ok (.iload_n 2, 1) := by decide +kernel
theorem d11_42 : decode prog_14_method_11_code 42 = .ok (.ireturn, 1) := by decide +kernel
theorem ef11_eq_1_4 (m : MethodId) (x0 : Addr) (x1 : Addr) : entryFrame m #[(.ref x0), (.ref x1)] 5 = mkF m 0 #[.val (.ref x0), .val (.ref x1), .unset, .unset, .unset] [] := by first | (simp [entryFrame, mkF, argsToLocals, Value.category]; done) | rfl
def Q11_eq_1_4 (Z : State) (a0_ : Addr) (a1_ : Addr) (pch : Int32) (wcs : Int32) (am : Addr) (km : ClassId) (y0 : Addr) (u0 : Value) (vn : Addr) (kx : ClassId) (xn : Int32) (v0 : Addr) (k0 : ClassId) (x0 : Int32) (h0 : Heap) (n0 : Nat) (v : Option Value) (h : Heap) (L : List Loc) : Prop := v = some (.int 0) ∧ Fr n0 L ∧ h = h0
theorem rm11_eq_1_4 (l : Launch) (Z : State) (a0 : Array Value) (hw : ∀ d ∈ tables_1, d.before a0 Z = true) (ws : List Jvm.Cond) (a0_ : Addr) (a1_ : Addr) (pch : Int32) (wcs : Int32) (am : Addr) (km : ClassId) (y0 : Addr) (u0 : Value) (vn : Addr) (kx : ClassId) (xn : Int32) (v0 : Addr) (k0 : ClassId) (x0 : Int32) (h0 : Heap) (n0 : Nat) (Z0 : n0 ≤ h0.size) (O0 : Old Z n0 h0) (S_CS : Sta Z Z.heap sq2 "COMPACT_STRINGS" "Z" (.int wcs)) (hcs : ¬ (wcs = (0 : Int32))) (E0 : Exa Z h0 a0_ sq0) (F_m : Fld Z h0 a0_ sq0 "members" sq3 (.ref am)) (F_i : Fld Z h0 a0_ sq0 "index" "[I" .null) (F_s : Fld Z h0 a0_ sq0 "size" "I" (.int 1)) (F_c : Fld Z h0 a0_ sq0 "changes" "I" (.int pch)) (E_m : Exa Z h0 am sq3) (V_m : Arv Z h0 am km (.object sq1) (4 : Int32) [(.ref y0), u0, .null, .null] .null) (E_a1_ : Exa Z h0 a1_ sq2) (Fv_a1_ : Fld Z h0 a1_ sq2 "value" "[B" (.ref vn)) (Fc_a1_ : Fld Z h0 a1_ sq2 "coder" "B" (.int 0)) (V_a1 : Arv Z h0 vn kx .byte (1 : Int32) [(.int xn)] (.int 0)) (E_y0 : Exa Z h0 y0 sq2) (Fv_y0 : Fld Z h0 y0 sq2 "value" "[B" (.ref v0)) (Fc_y0 : Fld Z h0 y0 sq2 "coder" "B" (.int 0)) (V_y0 : Arv Z h0 v0 k0 .byte (1 : Int32) [(.int x0)] (.int 0)) (ne0 : a1_ ≠ y0) (hcd0 : xn = x0) :
    Met l Z ws (⟨sq0, "find", "(Ljava/lang/Object;)I"⟩ : MethodName) prog_14_method_11_code 5 (some .int) (Rm 2 0 0 28) #[(.ref a0_), (.ref a1_)] h0 (Q11_eq_1_4 Z a0_ a1_ pch wcs am km y0 u0 vn kx xn v0 k0 x0 h0 n0) := by
  refine Met.enter (L0 := #[.val (.ref a0_), .val (.ref a1_), .unset, .unset, .unset]) (plainFor_of_name pn10) (fun m => ef11_eq_1_4 m a0_ a1_) ?_
  intro p e s m below meth c s₁ hx hby hml hown hnm hret hlk hZ X0 e0
  have N0 := Fr.nil n0
  have K0 : Keep h0 h0 [] := Keep.refl h0 _
  refine Go.st (t' := s₁.setTop (mkF m 1 #[.val (.ref a0_), .val (.ref a1_), .unset, .unset, .unset] [(.ref a1_)])) (fun target kt => ?_) ?_
  · refine XS.aloadN X0.here hx rfl (hb hby d11_0) rfl rfl ?_
    exact kt
  obtain ⟨T10, X10, e10, st10⟩ := instY X0 hx hZ hown (hw _ tw65) e0 (Ins.self E_a1_) (g := (mkF m 1 #[.val (.ref a0_), .val (.ref a1_), .unset, .unset, .unset] [(.ref a1_)])) rfl rfl (hb hby d11_1)
  refine Go.st st10 ?_
  show Go _ _ _ _ _ _ _ (T10.setTop (mkF m 4 _ [(.int 1)]))
  refine Go.st (t' := T10.setTop (mkF m 10 #[.val (.ref a0_), .val (.ref a1_), .unset, .unset, .unset] [(.ref a0_)])) (fun target kt => ?_) ?_
  · refine XS.ifYes X10.here hx rfl (pc0 := 4) (pc' := 9) rfl (hb hby d11_4) rfl ((if0 _ _).trans (feq (by decide : ¬ ((1 : Int32) = (0 : Int32)))).2) (by decide) (by decide) ?_
    refine XS.aloadN X10.here hx rfl (hb hby d11_9) rfl rfl ?_
    exact kt
  obtain ⟨T11, X11, e11, st11⟩ := getF X10 hx hZ hown (host := "") (Or.inl (hw _ tw66)) Via.refl e10 F_i (g := (mkF m 10 #[.val (.ref a0_), .val (.ref a1_), .unset, .unset, .unset] [(.ref a0_)])) rfl rfl (hb hby d11_10)
  refine Go.st st11 ?_
  show Go _ _ _ _ _ _ _ (T11.setTop (mkF m 13 _ [.null]))
  refine Go.st (t' := T11.setTop (mkF m 20 #[.val (.ref a0_), .val (.ref a1_), .val (.int 0), .unset, .unset] [(.ref a0_), (.int 0)])) (fun target kt => ?_) ?_
  · refine XS.ifnonnullNo X11.here hx rfl (hb hby d11_13) rfl ?_
    refine XS.iconst X11.here hx rfl (hb hby d11_16) ?_
    refine XS.istoreN X11.here hx rfl (hb hby d11_17) rfl (l' := #[.val (.ref a0_), .val (.ref a1_), .val (.int 0), .unset, .unset]) rfl ?_
    refine XS.iloadN X11.here hx rfl (hb hby d11_18) rfl ?_
    refine XS.aloadN X11.here hx rfl (hb hby d11_19) rfl rfl ?_
    exact kt
  obtain ⟨T12, X12, e12, st12⟩ := getF X11 hx hZ hown (host := "") (Or.inl (hw _ tw68)) Via.refl e11 F_s (g := (mkF m 20 #[.val (.ref a0_), .val (.ref a1_), .val (.int 0), .unset, .unset] [(.ref a0_), (.int 0)])) rfl rfl (hb hby d11_20)
  refine Go.st st12 ?_
  show Go _ _ _ _ _ _ _ (T12.setTop (mkF m 23 _ [(.int 1), (.int 0)]))
  refine Go.st (t' := T12.setTop (mkF m 28 #[.val (.ref a0_), .val (.ref a1_), .val (.int 0), .unset, .unset] [(.ref a0_), (.ref a1_)])) (fun target kt => ?_) ?_
  · refine XS.icmpNo X12.here hx rfl (hb hby d11_23) rfl (tlt (by decide : (0 : Int32) < (1 : Int32))).2.1 ?_
    refine XS.aloadN X12.here hx rfl (hb hby d11_26) rfl rfl ?_
    refine XS.aloadN X12.here hx rfl (hb hby d11_27) rfl rfl ?_
    exact kt
  obtain ⟨T13, X13, e13, st13⟩ := getF X12 hx hZ hown (host := "") (Or.inl (hw _ tw16)) Via.refl e12 F_m (g := (mkF m 28 #[.val (.ref a0_), .val (.ref a1_), .val (.int 0), .unset, .unset] [(.ref a0_), (.ref a1_)])) rfl rfl (hb hby d11_28)
  refine Go.st st13 ?_
  show Go _ _ _ _ _ _ _ (T13.setTop (mkF m 31 _ [(.ref am), (.ref a1_)]))
  obtain ⟨cl14, Ar14, -, S14, M14, H14, -⟩ := id V_m
  have hin14 : ¬ ((0 : Int32) < 0 ∨ cl14.slots.size ≤ ((0 : Int32)).toNatClampNeg) := inb_of S14 ⟨by decide, by decide⟩
  have hat14 : cl14.slots[((0 : Int32)).toNatClampNeg]? = some (.ref y0) := H14.at hin14 rfl
  refine Go.st (t' := T13.setTop (mkF m 35 #[.val (.ref a0_), .val (.ref a1_), .val (.int 0), .unset, .unset] [(.ref y0), (.ref a1_)])) (fun target kt => ?_) ?_
  · refine XS.iconst X13.here hx rfl (hb hby d11_31) ?_
    refine XS.iloadN X13.here hx rfl (hb hby d11_32) rfl ?_
    refine XS.imul X13.here hx rfl (hb hby d11_33) rfl ?_
    refine X13.aaload hx (j := (0 : Int32)) (v := (.ref y0)) (by rw [e13]; exact Ar14.1) (State.isArrayOf_alike hZ.alike Ar14.2.1) rfl Ar14.2.2 hin14 hat14 (g := (mkF m 34 #[.val (.ref a0_), .val (.ref a1_), .val (.int 0), .unset, .unset] [(.int 0), (.ref am), (.ref a1_)])) rfl rfl (hb hby d11_34) _ ?_
    exact kt
  obtain ⟨cq15, kq15, q15a, q15b, q15c⟩ := isOf hZ e13 E_a1_
  obtain ⟨_, _, ⟨T15, L15, k15, n15⟩, -, X15, ⟨Lc15, hQ15, l15, y15, z15⟩, st15⟩ := X13.virtualBack hx (y := (⟨sq1, "equals", "(Ljava/lang/Object;)Z"⟩ : MethodName)) (z := (⟨sq2, "equals", "(Ljava/lang/Object;)Z"⟩ : MethodName)) hown (mvT hZ (hw _ tw131)) (mvT hZ (hw _ tw132)) (own_nf (y := (⟨sq1, "getClass", "()Ljava/lang/Class;"⟩ : MethodName)) (args := #[]) (notFace_of_selects (args := #[]) (mvT hZ (hw _ tw85))) rfl (mvT hZ (hw _ tw84))) (mvT hZ (hw _ tw134)) (mvT hZ (hw _ tw135)) (by decide) (backOf (W := 0) (rm23_eq l Z a0 hw [] a1_ y0 wcs vn v0 kx k0 xn x0 h0 n0 (Nat.le_trans Z0 K0.1) O0 S_CS hcs E_a1_ Fv_a1_ Fc_a1_ E_y0 Fv_y0 Fc_y0 V_a1 V_y0 ne0 hcd0) hZ (hw _ tw136) (hw _ tw20) (by decide) (by decide)) q15a q15c (g := (mkF m 35 #[.val (.ref a0_), .val (.ref a1_), .val (.int 0), .unset, .unset] [(.ref y0), (.ref a1_)])) rfl (by rw [hml]; rfl) (Steps.refl _) (argsL := [(.ref y0)]) (rest := []) (lenOf pd6 rfl) rfl (by show 2 * 0 + _ ≤ _; exact Nat.le_of_eq rfl) (hb hby d11_35) (fun _ _ => ⟨rfl, e13, (by decide : 0 + 0 ≤ _), (by decide : 0 + 0 ≤ _)⟩)
  dsimp only [Pt.U, Pt.locs, Pt.cells, Pt.slots] at X15 l15 y15 z15 st15 hQ15
  subst l15 y15 z15
  obtain ⟨rfl, Nq15, eq15⟩ := hQ15
  have N15 := Fr.app N0 Nq15
  refine Go.by st15 ?_
  show Go _ _ _ _ _ _ _ (T15.setTop (mkF m 38 _ [(.int 1)]))
  refine Go.st (t' := T15.setTop (mkF m 42 #[.val (.ref a0_), .val (.ref a1_), .val (.int 0), .unset, .unset] [(.int 0)])) (fun target kt => ?_) ?_
  · refine XS.ifNo X15.here hx rfl (hb hby d11_38) rfl ((if0 _ _).trans (feq (by decide : ¬ ((1 : Int32) = (0 : Int32)))).1) ?_
    refine XS.iloadN X15.here hx rfl (hb hby d11_41) rfl ?_
    exact kt
  refine Go.ret X15 (v := some (.int 0)) (fun h => by rw [hret] at h; cases h) hlk (fun fs hr => retI X15 hx hret (hb hby d11_42) hr) ?_ (by decide) (by decide)
  show Q11_eq_1_4 Z a0_ a1_ pch wcs am km y0 u0 vn kx xn v0 k0 x0 h0 n0 _ T15.heap _
  rw [eq15]
  exact ⟨rfl, N15, rfl⟩
theorem d11_43 : decode prog_14_method_11_code 43 = .ok (.iinc 2 1, 3) := by decide +kernel
theorem d11_46 : decode prog_14_method_11_code 46 = .ok (.goto (-28), 3) := by decide +kernel
theorem ef11_ne_1_4 (m : MethodId) (x0 : Addr) (x1 : Addr) : entryFrame m #[(.ref x0), (.ref x1)] 5 = mkF m 0 #[.val (.ref x0), .val (.ref x1), .unset, .unset, .unset] [] := by first | (simp [entryFrame, mkF, argsToLocals, Value.category]; done) | rfl
def Q11_ne_1_4 (Z : State) (a0_ : Addr) (a1_ : Addr) (pch : Int32) (wcs : Int32) (am : Addr) (km : ClassId) (y0 : Addr) (u0 : Value) (vn : Addr) (kx : ClassId) (xn : Int32) (v0 : Addr) (k0 : ClassId) (x0 : Int32) (h0 : Heap) (n0 : Nat) (v : Option Value) (h : Heap) (L : List Loc) : Prop := v = some (.int (-1)) ∧ Fr n0 L ∧ h = h0
theorem rm11_ne_1_4 (l : Launch) (Z : State) (a0 : Array Value) (hw : ∀ d ∈ tables_1, d.before a0 Z = true) (ws : List Jvm.Cond) (a0_ : Addr) (a1_ : Addr) (pch : Int32) (wcs : Int32) (am : Addr) (km : ClassId) (y0 : Addr) (u0 : Value) (vn : Addr) (kx : ClassId) (xn : Int32) (v0 : Addr) (k0 : ClassId) (x0 : Int32) (h0 : Heap) (n0 : Nat) (Z0 : n0 ≤ h0.size) (O0 : Old Z n0 h0) (S_CS : Sta Z Z.heap sq2 "COMPACT_STRINGS" "Z" (.int wcs)) (hcs : ¬ (wcs = (0 : Int32))) (E0 : Exa Z h0 a0_ sq0) (F_m : Fld Z h0 a0_ sq0 "members" sq3 (.ref am)) (F_i : Fld Z h0 a0_ sq0 "index" "[I" .null) (F_s : Fld Z h0 a0_ sq0 "size" "I" (.int 1)) (F_c : Fld Z h0 a0_ sq0 "changes" "I" (.int pch)) (E_m : Exa Z h0 am sq3) (V_m : Arv Z h0 am km (.object sq1) (4 : Int32) [(.ref y0), u0, .null, .null] .null) (E_a1_ : Exa Z h0 a1_ sq2) (Fv_a1_ : Fld Z h0 a1_ sq2 "value" "[B" (.ref vn)) (Fc_a1_ : Fld Z h0 a1_ sq2 "coder" "B" (.int 0)) (V_a1 : Arv Z h0 vn kx .byte (1 : Int32) [(.int xn)] (.int 0)) (E_y0 : Exa Z h0 y0 sq2) (Fv_y0 : Fld Z h0 y0 sq2 "value" "[B" (.ref v0)) (Fc_y0 : Fld Z h0 y0 sq2 "coder" "B" (.int 0)) (V_y0 : Arv Z h0 v0 k0 .byte (1 : Int32) [(.int x0)] (.int 0)) (ne0 : a1_ ≠ y0) (hcd0 : ¬ (xn = x0)) :
    Met l Z ws (⟨sq0, "find", "(Ljava/lang/Object;)I"⟩ : MethodName) prog_14_method_11_code 5 (some .int) (Rm 2 0 0 28) #[(.ref a0_), (.ref a1_)] h0 (Q11_ne_1_4 Z a0_ a1_ pch wcs am km y0 u0 vn kx xn v0 k0 x0 h0 n0) := by
  refine Met.enter (L0 := #[.val (.ref a0_), .val (.ref a1_), .unset, .unset, .unset]) (plainFor_of_name pn10) (fun m => ef11_ne_1_4 m a0_ a1_) ?_
  intro p e s m below meth c s₁ hx hby hml hown hnm hret hlk hZ X0 e0
  have N0 := Fr.nil n0
  have K0 : Keep h0 h0 [] := Keep.refl h0 _
  refine Go.st (t' := s₁.setTop (mkF m 1 #[.val (.ref a0_), .val (.ref a1_), .unset, .unset, .unset] [(.ref a1_)])) (fun target kt => ?_) ?_
  · refine XS.aloadN X0.here hx rfl (hb hby d11_0) rfl rfl ?_
    exact kt
  obtain ⟨T10, X10, e10, st10⟩ := instY X0 hx hZ hown (hw _ tw65) e0 (Ins.self E_a1_) (g := (mkF m 1 #[.val (.ref a0_), .val (.ref a1_), .unset, .unset, .unset] [(.ref a1_)])) rfl rfl (hb hby d11_1)
  refine Go.st st10 ?_
  show Go _ _ _ _ _ _ _ (T10.setTop (mkF m 4 _ [(.int 1)]))
  refine Go.st (t' := T10.setTop (mkF m 10 #[.val (.ref a0_), .val (.ref a1_), .unset, .unset, .unset] [(.ref a0_)])) (fun target kt => ?_) ?_
  · refine XS.ifYes X10.here hx rfl (pc0 := 4) (pc' := 9) rfl (hb hby d11_4) rfl ((if0 _ _).trans (feq (by decide : ¬ ((1 : Int32) = (0 : Int32)))).2) (by decide) (by decide) ?_
    refine XS.aloadN X10.here hx rfl (hb hby d11_9) rfl rfl ?_
    exact kt
  obtain ⟨T11, X11, e11, st11⟩ := getF X10 hx hZ hown (host := "") (Or.inl (hw _ tw66)) Via.refl e10 F_i (g := (mkF m 10 #[.val (.ref a0_), .val (.ref a1_), .unset, .unset, .unset] [(.ref a0_)])) rfl rfl (hb hby d11_10)
  refine Go.st st11 ?_
  show Go _ _ _ _ _ _ _ (T11.setTop (mkF m 13 _ [.null]))
  refine Go.st (t' := T11.setTop (mkF m 20 #[.val (.ref a0_), .val (.ref a1_), .val (.int 0), .unset, .unset] [(.ref a0_), (.int 0)])) (fun target kt => ?_) ?_
  · refine XS.ifnonnullNo X11.here hx rfl (hb hby d11_13) rfl ?_
    refine XS.iconst X11.here hx rfl (hb hby d11_16) ?_
    refine XS.istoreN X11.here hx rfl (hb hby d11_17) rfl (l' := #[.val (.ref a0_), .val (.ref a1_), .val (.int 0), .unset, .unset]) rfl ?_
    refine XS.iloadN X11.here hx rfl (hb hby d11_18) rfl ?_
    refine XS.aloadN X11.here hx rfl (hb hby d11_19) rfl rfl ?_
    exact kt
  obtain ⟨T12, X12, e12, st12⟩ := getF X11 hx hZ hown (host := "") (Or.inl (hw _ tw68)) Via.refl e11 F_s (g := (mkF m 20 #[.val (.ref a0_), .val (.ref a1_), .val (.int 0), .unset, .unset] [(.ref a0_), (.int 0)])) rfl rfl (hb hby d11_20)
  refine Go.st st12 ?_
  show Go _ _ _ _ _ _ _ (T12.setTop (mkF m 23 _ [(.int 1), (.int 0)]))
  refine Go.st (t' := T12.setTop (mkF m 28 #[.val (.ref a0_), .val (.ref a1_), .val (.int 0), .unset, .unset] [(.ref a0_), (.ref a1_)])) (fun target kt => ?_) ?_
  · refine XS.icmpNo X12.here hx rfl (hb hby d11_23) rfl (tlt (by decide : (0 : Int32) < (1 : Int32))).2.1 ?_
    refine XS.aloadN X12.here hx rfl (hb hby d11_26) rfl rfl ?_
    refine XS.aloadN X12.here hx rfl (hb hby d11_27) rfl rfl ?_
    exact kt
  obtain ⟨T13, X13, e13, st13⟩ := getF X12 hx hZ hown (host := "") (Or.inl (hw _ tw16)) Via.refl e12 F_m (g := (mkF m 28 #[.val (.ref a0_), .val (.ref a1_), .val (.int 0), .unset, .unset] [(.ref a0_), (.ref a1_)])) rfl rfl (hb hby d11_28)
  refine Go.st st13 ?_
  show Go _ _ _ _ _ _ _ (T13.setTop (mkF m 31 _ [(.ref am), (.ref a1_)]))
  obtain ⟨cl14, Ar14, -, S14, M14, H14, -⟩ := id V_m
  have hin14 : ¬ ((0 : Int32) < 0 ∨ cl14.slots.size ≤ ((0 : Int32)).toNatClampNeg) := inb_of S14 ⟨by decide, by decide⟩
  have hat14 : cl14.slots[((0 : Int32)).toNatClampNeg]? = some (.ref y0) := H14.at hin14 rfl
  refine Go.st (t' := T13.setTop (mkF m 35 #[.val (.ref a0_), .val (.ref a1_), .val (.int 0), .unset, .unset] [(.ref y0), (.ref a1_)])) (fun target kt => ?_) ?_
  · refine XS.iconst X13.here hx rfl (hb hby d11_31) ?_
    refine XS.iloadN X13.here hx rfl (hb hby d11_32) rfl ?_
    refine XS.imul X13.here hx rfl (hb hby d11_33) rfl ?_
    refine X13.aaload hx (j := (0 : Int32)) (v := (.ref y0)) (by rw [e13]; exact Ar14.1) (State.isArrayOf_alike hZ.alike Ar14.2.1) rfl Ar14.2.2 hin14 hat14 (g := (mkF m 34 #[.val (.ref a0_), .val (.ref a1_), .val (.int 0), .unset, .unset] [(.int 0), (.ref am), (.ref a1_)])) rfl rfl (hb hby d11_34) _ ?_
    exact kt
  obtain ⟨cq15, kq15, q15a, q15b, q15c⟩ := isOf hZ e13 E_a1_
  obtain ⟨_, _, ⟨T15, L15, k15, n15⟩, -, X15, ⟨Lc15, hQ15, l15, y15, z15⟩, st15⟩ := X13.virtualBack hx (y := (⟨sq1, "equals", "(Ljava/lang/Object;)Z"⟩ : MethodName)) (z := (⟨sq2, "equals", "(Ljava/lang/Object;)Z"⟩ : MethodName)) hown (mvT hZ (hw _ tw131)) (mvT hZ (hw _ tw132)) (own_nf (y := (⟨sq1, "getClass", "()Ljava/lang/Class;"⟩ : MethodName)) (args := #[]) (notFace_of_selects (args := #[]) (mvT hZ (hw _ tw85))) rfl (mvT hZ (hw _ tw84))) (mvT hZ (hw _ tw134)) (mvT hZ (hw _ tw135)) (by decide) (backOf (W := 0) (rm23_ne l Z a0 hw [] a1_ y0 wcs vn v0 kx k0 xn x0 h0 n0 (Nat.le_trans Z0 K0.1) O0 S_CS hcs E_a1_ Fv_a1_ Fc_a1_ E_y0 Fv_y0 Fc_y0 V_a1 V_y0 ne0 hcd0) hZ (hw _ tw136) (hw _ tw20) (by decide) (by decide)) q15a q15c (g := (mkF m 35 #[.val (.ref a0_), .val (.ref a1_), .val (.int 0), .unset, .unset] [(.ref y0), (.ref a1_)])) rfl (by rw [hml]; rfl) (Steps.refl _) (argsL := [(.ref y0)]) (rest := []) (lenOf pd6 rfl) rfl (by show 2 * 0 + _ ≤ _; exact Nat.le_of_eq rfl) (hb hby d11_35) (fun _ _ => ⟨rfl, e13, (by decide : 0 + 0 ≤ _), (by decide : 0 + 0 ≤ _)⟩)
  dsimp only [Pt.U, Pt.locs, Pt.cells, Pt.slots] at X15 l15 y15 z15 st15 hQ15
  subst l15 y15 z15
  obtain ⟨rfl, Nq15, eq15⟩ := hQ15
  have N15 := Fr.app N0 Nq15
  refine Go.by st15 ?_
  show Go _ _ _ _ _ _ _ (T15.setTop (mkF m 38 _ [(.int 0)]))
  refine Go.st (t' := T15.setTop (mkF m 20 #[.val (.ref a0_), .val (.ref a1_), .val (.int 1), .unset, .unset] [(.ref a0_), (.int 1)])) (fun target kt => ?_) ?_
  · refine XS.ifYes X15.here hx rfl (pc0 := 38) (pc' := 43) rfl (hb hby d11_38) rfl ((if0 _ _).trans (teq (by decide : (0 : Int32) = (0 : Int32))).1) (by decide) (by decide) ?_
    refine XS.iinc X15.here hx rfl (hb hby d11_43) rfl (l' := #[.val (.ref a0_), .val (.ref a1_), .val (.int 1), .unset, .unset]) rfl ?_
    refine XS.goto X15.here hx rfl (pc0 := 46) (pc' := 18) rfl (hb hby d11_46) (by decide) (by decide) ?_
    refine XS.iloadN X15.here hx rfl (hb hby d11_18) rfl ?_
    refine XS.aloadN X15.here hx rfl (hb hby d11_19) rfl rfl ?_
    exact kt
  obtain ⟨T16, X16, e16, st16⟩ := getF X15 hx hZ hown (host := "") (Or.inl (hw _ tw68)) Via.refl eq15 F_s (g := (mkF m 20 #[.val (.ref a0_), .val (.ref a1_), .val (.int 1), .unset, .unset] [(.ref a0_), (.int 1)])) rfl rfl (hb hby d11_20)
  refine Go.st st16 ?_
  show Go _ _ _ _ _ _ _ (T16.setTop (mkF m 23 _ [(.int 1), (.int 1)]))
  refine Go.st (t' := T16.setTop (mkF m 50 #[.val (.ref a0_), .val (.ref a1_), .val (.int 1), .unset, .unset] [(.int (-1))])) (fun target kt => ?_) ?_
  · refine XS.icmpYes X16.here hx rfl (pc0 := 23) (pc' := 49) rfl (hb hby d11_23) rfl (flt (by decide : ¬ ((1 : Int32) < (1 : Int32)))).2.1 (by decide) (by decide) ?_
    refine XS.iconst X16.here hx rfl (hb hby d11_49) ?_
    exact kt
  refine Go.ret X16 (v := some (.int (-1))) (fun h => by rw [hret] at h; cases h) hlk (fun fs hr => retI X16 hx hret (hb hby d11_50) hr) ?_ (by decide) (by decide)
  show Q11_ne_1_4 Z a0_ a1_ pch wcs am km y0 u0 vn kx xn v0 k0 x0 h0 n0 _ T16.heap _
  rw [e16]
  exact ⟨rfl, N15, rfl⟩
theorem ef11_eq_2_4 (m : MethodId) (x0 : Addr) (x1 : Addr) : entryFrame m #[(.ref x0), (.ref x1)] 5 = mkF m 0 #[.val (.ref x0), .val (.ref x1), .unset, .unset, .unset] [] := by first | (simp [entryFrame, mkF, argsToLocals, Value.category]; done) | rfl
def Q11_eq_2_4 (Z : State) (a0_ : Addr) (a1_ : Addr) (pch : Int32) (wcs : Int32) (am : Addr) (km : ClassId) (y0 : Addr) (u0 : Value) (y1 : Addr) (u1 : Value) (vn : Addr) (kx : ClassId) (xn : Int32) (v0 : Addr) (k0 : ClassId) (x0 : Int32) (h0 : Heap) (n0 : Nat) (v : Option Value) (h : Heap) (L : List Loc) : Prop := v = some (.int 0) ∧ Fr n0 L ∧ h = h0
theorem rm11_eq_2_4 (l : Launch) (Z : State) (a0 : Array Value) (hw : ∀ d ∈ tables_1, d.before a0 Z = true) (ws : List Jvm.Cond) (a0_ : Addr) (a1_ : Addr) (pch : Int32) (wcs : Int32) (am : Addr) (km : ClassId) (y0 : Addr) (u0 : Value) (y1 : Addr) (u1 : Value) (vn : Addr) (kx : ClassId) (xn : Int32) (v0 : Addr) (k0 : ClassId) (x0 : Int32) (h0 : Heap) (n0 : Nat) (Z0 : n0 ≤ h0.size) (O0 : Old Z n0 h0) (S_CS : Sta Z Z.heap sq2 "COMPACT_STRINGS" "Z" (.int wcs)) (hcs : ¬ (wcs = (0 : Int32))) (E0 : Exa Z h0 a0_ sq0) (F_m : Fld Z h0 a0_ sq0 "members" sq3 (.ref am)) (F_i : Fld Z h0 a0_ sq0 "index" "[I" .null) (F_s : Fld Z h0 a0_ sq0 "size" "I" (.int 2)) (F_c : Fld Z h0 a0_ sq0 "changes" "I" (.int pch)) (E_m : Exa Z h0 am sq3) (V_m : Arv Z h0 am km (.object sq1) (4 : Int32) [(.ref y0), u0, (.ref y1), u1] .null) (E_a1_ : Exa Z h0 a1_ sq2) (Fv_a1_ : Fld Z h0 a1_ sq2 "value" "[B" (.ref vn)) (Fc_a1_ : Fld Z h0 a1_ sq2 "coder" "B" (.int 0)) (V_a1 : Arv Z h0 vn kx .byte (1 : Int32) [(.int xn)] (.int 0)) (E_y0 : Exa Z h0 y0 sq2) (Fv_y0 : Fld Z h0 y0 sq2 "value" "[B" (.ref v0)) (Fc_y0 : Fld Z h0 y0 sq2 "coder" "B" (.int 0)) (V_y0 : Arv Z h0 v0 k0 .byte (1 : Int32) [(.int x0)] (.int 0)) (ne0 : a1_ ≠ y0) (hcd0 : xn = x0) :
    Met l Z ws (⟨sq0, "find", "(Ljava/lang/Object;)I"⟩ : MethodName) prog_14_method_11_code 5 (some .int) (Rm 2 0 0 28) #[(.ref a0_), (.ref a1_)] h0 (Q11_eq_2_4 Z a0_ a1_ pch wcs am km y0 u0 y1 u1 vn kx xn v0 k0 x0 h0 n0) := by
  refine Met.enter (L0 := #[.val (.ref a0_), .val (.ref a1_), .unset, .unset, .unset]) (plainFor_of_name pn10) (fun m => ef11_eq_2_4 m a0_ a1_) ?_
  intro p e s m below meth c s₁ hx hby hml hown hnm hret hlk hZ X0 e0
  have N0 := Fr.nil n0
  have K0 : Keep h0 h0 [] := Keep.refl h0 _
  refine Go.st (t' := s₁.setTop (mkF m 1 #[.val (.ref a0_), .val (.ref a1_), .unset, .unset, .unset] [(.ref a1_)])) (fun target kt => ?_) ?_
  · refine XS.aloadN X0.here hx rfl (hb hby d11_0) rfl rfl ?_
    exact kt
  obtain ⟨T10, X10, e10, st10⟩ := instY X0 hx hZ hown (hw _ tw65) e0 (Ins.self E_a1_) (g := (mkF m 1 #[.val (.ref a0_), .val (.ref a1_), .unset, .unset, .unset] [(.ref a1_)])) rfl rfl (hb hby d11_1)
  refine Go.st st10 ?_
  show Go _ _ _ _ _ _ _ (T10.setTop (mkF m 4 _ [(.int 1)]))
  refine Go.st (t' := T10.setTop (mkF m 10 #[.val (.ref a0_), .val (.ref a1_), .unset, .unset, .unset] [(.ref a0_)])) (fun target kt => ?_) ?_
  · refine XS.ifYes X10.here hx rfl (pc0 := 4) (pc' := 9) rfl (hb hby d11_4) rfl ((if0 _ _).trans (feq (by decide : ¬ ((1 : Int32) = (0 : Int32)))).2) (by decide) (by decide) ?_
    refine XS.aloadN X10.here hx rfl (hb hby d11_9) rfl rfl ?_
    exact kt
  obtain ⟨T11, X11, e11, st11⟩ := getF X10 hx hZ hown (host := "") (Or.inl (hw _ tw66)) Via.refl e10 F_i (g := (mkF m 10 #[.val (.ref a0_), .val (.ref a1_), .unset, .unset, .unset] [(.ref a0_)])) rfl rfl (hb hby d11_10)
  refine Go.st st11 ?_
  show Go _ _ _ _ _ _ _ (T11.setTop (mkF m 13 _ [.null]))
  refine Go.st (t' := T11.setTop (mkF m 20 #[.val (.ref a0_), .val (.ref a1_), .val (.int 0), .unset, .unset] [(.ref a0_), (.int 0)])) (fun target kt => ?_) ?_
  · refine XS.ifnonnullNo X11.here hx rfl (hb hby d11_13) rfl ?_
    refine XS.iconst X11.here hx rfl (hb hby d11_16) ?_
    refine XS.istoreN X11.here hx rfl (hb hby d11_17) rfl (l' := #[.val (.ref a0_), .val (.ref a1_), .val (.int 0), .unset, .unset]) rfl ?_
    refine XS.iloadN X11.here hx rfl (hb hby d11_18) rfl ?_
    refine XS.aloadN X11.here hx rfl (hb hby d11_19) rfl rfl ?_
    exact kt
  obtain ⟨T12, X12, e12, st12⟩ := getF X11 hx hZ hown (host := "") (Or.inl (hw _ tw68)) Via.refl e11 F_s (g := (mkF m 20 #[.val (.ref a0_), .val (.ref a1_), .val (.int 0), .unset, .unset] [(.ref a0_), (.int 0)])) rfl rfl (hb hby d11_20)
  refine Go.st st12 ?_
  show Go _ _ _ _ _ _ _ (T12.setTop (mkF m 23 _ [(.int 2), (.int 0)]))
  refine Go.st (t' := T12.setTop (mkF m 28 #[.val (.ref a0_), .val (.ref a1_), .val (.int 0), .unset, .unset] [(.ref a0_), (.ref a1_)])) (fun target kt => ?_) ?_
  · refine XS.icmpNo X12.here hx rfl (hb hby d11_23) rfl (tlt (by decide : (0 : Int32) < (2 : Int32))).2.1 ?_
    refine XS.aloadN X12.here hx rfl (hb hby d11_26) rfl rfl ?_
    refine XS.aloadN X12.here hx rfl (hb hby d11_27) rfl rfl ?_
    exact kt
  obtain ⟨T13, X13, e13, st13⟩ := getF X12 hx hZ hown (host := "") (Or.inl (hw _ tw16)) Via.refl e12 F_m (g := (mkF m 28 #[.val (.ref a0_), .val (.ref a1_), .val (.int 0), .unset, .unset] [(.ref a0_), (.ref a1_)])) rfl rfl (hb hby d11_28)
  refine Go.st st13 ?_
  show Go _ _ _ _ _ _ _ (T13.setTop (mkF m 31 _ [(.ref am), (.ref a1_)]))
  obtain ⟨cl14, Ar14, -, S14, M14, H14, -⟩ := id V_m
  have hin14 : ¬ ((0 : Int32) < 0 ∨ cl14.slots.size ≤ ((0 : Int32)).toNatClampNeg) := inb_of S14 ⟨by decide, by decide⟩
  have hat14 : cl14.slots[((0 : Int32)).toNatClampNeg]? = some (.ref y0) := H14.at hin14 rfl
  refine Go.st (t' := T13.setTop (mkF m 35 #[.val (.ref a0_), .val (.ref a1_), .val (.int 0), .unset, .unset] [(.ref y0), (.ref a1_)])) (fun target kt => ?_) ?_
  · refine XS.iconst X13.here hx rfl (hb hby d11_31) ?_
    refine XS.iloadN X13.here hx rfl (hb hby d11_32) rfl ?_
    refine XS.imul X13.here hx rfl (hb hby d11_33) rfl ?_
    refine X13.aaload hx (j := (0 : Int32)) (v := (.ref y0)) (by rw [e13]; exact Ar14.1) (State.isArrayOf_alike hZ.alike Ar14.2.1) rfl Ar14.2.2 hin14 hat14 (g := (mkF m 34 #[.val (.ref a0_), .val (.ref a1_), .val (.int 0), .unset, .unset] [(.int 0), (.ref am), (.ref a1_)])) rfl rfl (hb hby d11_34) _ ?_
    exact kt
  obtain ⟨cq15, kq15, q15a, q15b, q15c⟩ := isOf hZ e13 E_a1_
  obtain ⟨_, _, ⟨T15, L15, k15, n15⟩, -, X15, ⟨Lc15, hQ15, l15, y15, z15⟩, st15⟩ := X13.virtualBack hx (y := (⟨sq1, "equals", "(Ljava/lang/Object;)Z"⟩ : MethodName)) (z := (⟨sq2, "equals", "(Ljava/lang/Object;)Z"⟩ : MethodName)) hown (mvT hZ (hw _ tw131)) (mvT hZ (hw _ tw132)) (own_nf (y := (⟨sq1, "getClass", "()Ljava/lang/Class;"⟩ : MethodName)) (args := #[]) (notFace_of_selects (args := #[]) (mvT hZ (hw _ tw85))) rfl (mvT hZ (hw _ tw84))) (mvT hZ (hw _ tw134)) (mvT hZ (hw _ tw135)) (by decide) (backOf (W := 0) (rm23_eq l Z a0 hw [] a1_ y0 wcs vn v0 kx k0 xn x0 h0 n0 (Nat.le_trans Z0 K0.1) O0 S_CS hcs E_a1_ Fv_a1_ Fc_a1_ E_y0 Fv_y0 Fc_y0 V_a1 V_y0 ne0 hcd0) hZ (hw _ tw136) (hw _ tw20) (by decide) (by decide)) q15a q15c (g := (mkF m 35 #[.val (.ref a0_), .val (.ref a1_), .val (.int 0), .unset, .unset] [(.ref y0), (.ref a1_)])) rfl (by rw [hml]; rfl) (Steps.refl _) (argsL := [(.ref y0)]) (rest := []) (lenOf pd6 rfl) rfl (by show 2 * 0 + _ ≤ _; exact Nat.le_of_eq rfl) (hb hby d11_35) (fun _ _ => ⟨rfl, e13, (by decide : 0 + 0 ≤ _), (by decide : 0 + 0 ≤ _)⟩)
  dsimp only [Pt.U, Pt.locs, Pt.cells, Pt.slots] at X15 l15 y15 z15 st15 hQ15
  subst l15 y15 z15
  obtain ⟨rfl, Nq15, eq15⟩ := hQ15
  have N15 := Fr.app N0 Nq15
  refine Go.by st15 ?_
  show Go _ _ _ _ _ _ _ (T15.setTop (mkF m 38 _ [(.int 1)]))
  refine Go.st (t' := T15.setTop (mkF m 42 #[.val (.ref a0_), .val (.ref a1_), .val (.int 0), .unset, .unset] [(.int 0)])) (fun target kt => ?_) ?_
  · refine XS.ifNo X15.here hx rfl (hb hby d11_38) rfl ((if0 _ _).trans (feq (by decide : ¬ ((1 : Int32) = (0 : Int32)))).1) ?_
    refine XS.iloadN X15.here hx rfl (hb hby d11_41) rfl ?_
    exact kt
  refine Go.ret X15 (v := some (.int 0)) (fun h => by rw [hret] at h; cases h) hlk (fun fs hr => retI X15 hx hret (hb hby d11_42) hr) ?_ (by decide) (by decide)
  show Q11_eq_2_4 Z a0_ a1_ pch wcs am km y0 u0 y1 u1 vn kx xn v0 k0 x0 h0 n0 _ T15.heap _
  rw [eq15]
  exact ⟨rfl, N15, rfl⟩
theorem ef11_ne_eq_2_4 (m : MethodId) (x0 : Addr) (x1 : Addr) : entryFrame m #[(.ref x0), (.ref x1)] 5 = mkF m 0 #[.val (.ref x0), .val (.ref x1), .unset, .unset, .unset] [] := by first | (simp [entryFrame, mkF, argsToLocals, Value.category]; done) | rfl
def Q11_ne_eq_2_4 (Z : State) (a0_ : Addr) (a1_ : Addr) (pch : Int32) (wcs : Int32) (am : Addr) (km : ClassId) (y0 : Addr) (u0 : Value) (y1 : Addr) (u1 : Value) (vn : Addr) (kx : ClassId) (xn : Int32) (v0 : Addr) (k0 : ClassId) (x0 : Int32) (v1 : Addr) (k1 : ClassId) (x1 : Int32) (h0 : Heap) (n0 : Nat) (v : Option Value) (h : Heap) (L : List Loc) : Prop := v = some (.int 1) ∧ Fr n0 L ∧ h = h0
theorem rm11_ne_eq_2_4 (l : Launch) (Z : State) (a0 : Array Value) (hw : ∀ d ∈ tables_1, d.before a0 Z = true) (ws : List Jvm.Cond) (a0_ : Addr) (a1_ : Addr) (pch : Int32) (wcs : Int32) (am : Addr) (km : ClassId) (y0 : Addr) (u0 : Value) (y1 : Addr) (u1 : Value) (vn : Addr) (kx : ClassId) (xn : Int32) (v0 : Addr) (k0 : ClassId) (x0 : Int32) (v1 : Addr) (k1 : ClassId) (x1 : Int32) (h0 : Heap) (n0 : Nat) (Z0 : n0 ≤ h0.size) (O0 : Old Z n0 h0) (S_CS : Sta Z Z.heap sq2 "COMPACT_STRINGS" "Z" (.int wcs)) (hcs : ¬ (wcs = (0 : Int32))) (E0 : Exa Z h0 a0_ sq0) (F_m : Fld Z h0 a0_ sq0 "members" sq3 (.ref am)) (F_i : Fld Z h0 a0_ sq0 "index" "[I" .null) (F_s : Fld Z h0 a0_ sq0 "size" "I" (.int 2)) (F_c : Fld Z h0 a0_ sq0 "changes" "I" (.int pch)) (E_m : Exa Z h0 am sq3) (V_m : Arv Z h0 am km (.object sq1) (4 : Int32) [(.ref y0), u0, (.ref y1), u1] .null) (E_a1_ : Exa Z h0 a1_ sq2) (Fv_a1_ : Fld Z h0 a1_ sq2 "value" "[B" (.ref vn)) (Fc_a1_ : Fld Z h0 a1_ sq2 "coder" "B" (.int 0)) (V_a1 : Arv Z h0 vn kx .byte (1 : Int32) [(.int xn)] (.int 0)) (E_y0 : Exa Z h0 y0 sq2) (Fv_y0 : Fld Z h0 y0 sq2 "value" "[B" (.ref v0)) (Fc_y0 : Fld Z h0 y0 sq2 "coder" "B" (.int 0)) (V_y0 : Arv Z h0 v0 k0 .byte (1 : Int32) [(.int x0)] (.int 0)) (ne0 : a1_ ≠ y0) (E_y1 : Exa Z h0 y1 sq2) (Fv_y1 : Fld Z h0 y1 sq2 "value" "[B" (.ref v1)) (Fc_y1 : Fld Z h0 y1 sq2 "coder" "B" (.int 0)) (V_y1 : Arv Z h0 v1 k1 .byte (1 : Int32) [(.int x1)] (.int 0)) (ne1 : a1_ ≠ y1) (hcd0 : ¬ (xn = x0)) (hcd1 : xn = x1) :
    Met l Z ws (⟨sq0, "find", "(Ljava/lang/Object;)I"⟩ : MethodName) prog_14_method_11_code 5 (some .int) (Rm 2 0 0 28) #[(.ref a0_), (.ref a1_)] h0 (Q11_ne_eq_2_4 Z a0_ a1_ pch wcs am km y0 u0 y1 u1 vn kx xn v0 k0 x0 v1 k1 x1 h0 n0) := by
  refine Met.enter (L0 := #[.val (.ref a0_), .val (.ref a1_), .unset, .unset, .unset]) (plainFor_of_name pn10) (fun m => ef11_ne_eq_2_4 m a0_ a1_) ?_
  intro p e s m below meth c s₁ hx hby hml hown hnm hret hlk hZ X0 e0
  have N0 := Fr.nil n0
  have K0 : Keep h0 h0 [] := Keep.refl h0 _
  refine Go.st (t' := s₁.setTop (mkF m 1 #[.val (.ref a0_), .val (.ref a1_), .unset, .unset, .unset] [(.ref a1_)])) (fun target kt => ?_) ?_
  · refine XS.aloadN X0.here hx rfl (hb hby d11_0) rfl rfl ?_
    exact kt
  obtain ⟨T10, X10, e10, st10⟩ := instY X0 hx hZ hown (hw _ tw65) e0 (Ins.self E_a1_) (g := (mkF m 1 #[.val (.ref a0_), .val (.ref a1_), .unset, .unset, .unset] [(.ref a1_)])) rfl rfl (hb hby d11_1)
  refine Go.st st10 ?_
  show Go _ _ _ _ _ _ _ (T10.setTop (mkF m 4 _ [(.int 1)]))
  refine Go.st (t' := T10.setTop (mkF m 10 #[.val (.ref a0_), .val (.ref a1_), .unset, .unset, .unset] [(.ref a0_)])) (fun target kt => ?_) ?_
  · refine XS.ifYes X10.here hx rfl (pc0 := 4) (pc' := 9) rfl (hb hby d11_4) rfl ((if0 _ _).trans (feq (by decide : ¬ ((1 : Int32) = (0 : Int32)))).2) (by decide) (by decide) ?_
    refine XS.aloadN X10.here hx rfl (hb hby d11_9) rfl rfl ?_
    exact kt
  obtain ⟨T11, X11, e11, st11⟩ := getF X10 hx hZ hown (host := "") (Or.inl (hw _ tw66)) Via.refl e10 F_i (g := (mkF m 10 #[.val (.ref a0_), .val (.ref a1_), .unset, .unset, .unset] [(.ref a0_)])) rfl rfl (hb hby d11_10)
  refine Go.st st11 ?_
  show Go _ _ _ _ _ _ _ (T11.setTop (mkF m 13 _ [.null]))
  refine Go.st (t' := T11.setTop (mkF m 20 #[.val (.ref a0_), .val (.ref a1_), .val (.int 0), .unset, .unset] [(.ref a0_), (.int 0)])) (fun target kt => ?_) ?_
  · refine XS.ifnonnullNo X11.here hx rfl (hb hby d11_13) rfl ?_
    refine XS.iconst X11.here hx rfl (hb hby d11_16) ?_
    refine XS.istoreN X11.here hx rfl (hb hby d11_17) rfl (l' := #[.val (.ref a0_), .val (.ref a1_), .val (.int 0), .unset, .unset]) rfl ?_
    refine XS.iloadN X11.here hx rfl (hb hby d11_18) rfl ?_
    refine XS.aloadN X11.here hx rfl (hb hby d11_19) rfl rfl ?_
    exact kt
  obtain ⟨T12, X12, e12, st12⟩ := getF X11 hx hZ hown (host := "") (Or.inl (hw _ tw68)) Via.refl e11 F_s (g := (mkF m 20 #[.val (.ref a0_), .val (.ref a1_), .val (.int 0), .unset, .unset] [(.ref a0_), (.int 0)])) rfl rfl (hb hby d11_20)
  refine Go.st st12 ?_
  show Go _ _ _ _ _ _ _ (T12.setTop (mkF m 23 _ [(.int 2), (.int 0)]))
  refine Go.st (t' := T12.setTop (mkF m 28 #[.val (.ref a0_), .val (.ref a1_), .val (.int 0), .unset, .unset] [(.ref a0_), (.ref a1_)])) (fun target kt => ?_) ?_
  · refine XS.icmpNo X12.here hx rfl (hb hby d11_23) rfl (tlt (by decide : (0 : Int32) < (2 : Int32))).2.1 ?_
    refine XS.aloadN X12.here hx rfl (hb hby d11_26) rfl rfl ?_
    refine XS.aloadN X12.here hx rfl (hb hby d11_27) rfl rfl ?_
    exact kt
  obtain ⟨T13, X13, e13, st13⟩ := getF X12 hx hZ hown (host := "") (Or.inl (hw _ tw16)) Via.refl e12 F_m (g := (mkF m 28 #[.val (.ref a0_), .val (.ref a1_), .val (.int 0), .unset, .unset] [(.ref a0_), (.ref a1_)])) rfl rfl (hb hby d11_28)
  refine Go.st st13 ?_
  show Go _ _ _ _ _ _ _ (T13.setTop (mkF m 31 _ [(.ref am), (.ref a1_)]))
  obtain ⟨cl14, Ar14, -, S14, M14, H14, -⟩ := id V_m
  have hin14 : ¬ ((0 : Int32) < 0 ∨ cl14.slots.size ≤ ((0 : Int32)).toNatClampNeg) := inb_of S14 ⟨by decide, by decide⟩
  have hat14 : cl14.slots[((0 : Int32)).toNatClampNeg]? = some (.ref y0) := H14.at hin14 rfl
  refine Go.st (t' := T13.setTop (mkF m 35 #[.val (.ref a0_), .val (.ref a1_), .val (.int 0), .unset, .unset] [(.ref y0), (.ref a1_)])) (fun target kt => ?_) ?_
  · refine XS.iconst X13.here hx rfl (hb hby d11_31) ?_
    refine XS.iloadN X13.here hx rfl (hb hby d11_32) rfl ?_
    refine XS.imul X13.here hx rfl (hb hby d11_33) rfl ?_
    refine X13.aaload hx (j := (0 : Int32)) (v := (.ref y0)) (by rw [e13]; exact Ar14.1) (State.isArrayOf_alike hZ.alike Ar14.2.1) rfl Ar14.2.2 hin14 hat14 (g := (mkF m 34 #[.val (.ref a0_), .val (.ref a1_), .val (.int 0), .unset, .unset] [(.int 0), (.ref am), (.ref a1_)])) rfl rfl (hb hby d11_34) _ ?_
    exact kt
  obtain ⟨cq15, kq15, q15a, q15b, q15c⟩ := isOf hZ e13 E_a1_
  obtain ⟨_, _, ⟨T15, L15, k15, n15⟩, -, X15, ⟨Lc15, hQ15, l15, y15, z15⟩, st15⟩ := X13.virtualBack hx (y := (⟨sq1, "equals", "(Ljava/lang/Object;)Z"⟩ : MethodName)) (z := (⟨sq2, "equals", "(Ljava/lang/Object;)Z"⟩ : MethodName)) hown (mvT hZ (hw _ tw131)) (mvT hZ (hw _ tw132)) (own_nf (y := (⟨sq1, "getClass", "()Ljava/lang/Class;"⟩ : MethodName)) (args := #[]) (notFace_of_selects (args := #[]) (mvT hZ (hw _ tw85))) rfl (mvT hZ (hw _ tw84))) (mvT hZ (hw _ tw134)) (mvT hZ (hw _ tw135)) (by decide) (backOf (W := 0) (rm23_ne l Z a0 hw [] a1_ y0 wcs vn v0 kx k0 xn x0 h0 n0 (Nat.le_trans Z0 K0.1) O0 S_CS hcs E_a1_ Fv_a1_ Fc_a1_ E_y0 Fv_y0 Fc_y0 V_a1 V_y0 ne0 hcd0) hZ (hw _ tw136) (hw _ tw20) (by decide) (by decide)) q15a q15c (g := (mkF m 35 #[.val (.ref a0_), .val (.ref a1_), .val (.int 0), .unset, .unset] [(.ref y0), (.ref a1_)])) rfl (by rw [hml]; rfl) (Steps.refl _) (argsL := [(.ref y0)]) (rest := []) (lenOf pd6 rfl) rfl (by show 2 * 0 + _ ≤ _; exact Nat.le_of_eq rfl) (hb hby d11_35) (fun _ _ => ⟨rfl, e13, (by decide : 0 + 0 ≤ _), (by decide : 0 + 0 ≤ _)⟩)
  dsimp only [Pt.U, Pt.locs, Pt.cells, Pt.slots] at X15 l15 y15 z15 st15 hQ15
  subst l15 y15 z15
  obtain ⟨rfl, Nq15, eq15⟩ := hQ15
  have N15 := Fr.app N0 Nq15
  refine Go.by st15 ?_
  show Go _ _ _ _ _ _ _ (T15.setTop (mkF m 38 _ [(.int 0)]))
  refine Go.st (t' := T15.setTop (mkF m 20 #[.val (.ref a0_), .val (.ref a1_), .val (.int 1), .unset, .unset] [(.ref a0_), (.int 1)])) (fun target kt => ?_) ?_
  · refine XS.ifYes X15.here hx rfl (pc0 := 38) (pc' := 43) rfl (hb hby d11_38) rfl ((if0 _ _).trans (teq (by decide : (0 : Int32) = (0 : Int32))).1) (by decide) (by decide) ?_
    refine XS.iinc X15.here hx rfl (hb hby d11_43) rfl (l' := #[.val (.ref a0_), .val (.ref a1_), .val (.int 1), .unset, .unset]) rfl ?_
    refine XS.goto X15.here hx rfl (pc0 := 46) (pc' := 18) rfl (hb hby d11_46) (by decide) (by decide) ?_
    refine XS.iloadN X15.here hx rfl (hb hby d11_18) rfl ?_
    refine XS.aloadN X15.here hx rfl (hb hby d11_19) rfl rfl ?_
    exact kt
  obtain ⟨T16, X16, e16, st16⟩ := getF X15 hx hZ hown (host := "") (Or.inl (hw _ tw68)) Via.refl eq15 F_s (g := (mkF m 20 #[.val (.ref a0_), .val (.ref a1_), .val (.int 1), .unset, .unset] [(.ref a0_), (.int 1)])) rfl rfl (hb hby d11_20)
  refine Go.st st16 ?_
  show Go _ _ _ _ _ _ _ (T16.setTop (mkF m 23 _ [(.int 2), (.int 1)]))
  refine Go.st (t' := T16.setTop (mkF m 28 #[.val (.ref a0_), .val (.ref a1_), .val (.int 1), .unset, .unset] [(.ref a0_), (.ref a1_)])) (fun target kt => ?_) ?_
  · refine XS.icmpNo X16.here hx rfl (hb hby d11_23) rfl (tlt (by decide : (1 : Int32) < (2 : Int32))).2.1 ?_
    refine XS.aloadN X16.here hx rfl (hb hby d11_26) rfl rfl ?_
    refine XS.aloadN X16.here hx rfl (hb hby d11_27) rfl rfl ?_
    exact kt
  obtain ⟨T17, X17, e17, st17⟩ := getF X16 hx hZ hown (host := "") (Or.inl (hw _ tw16)) Via.refl e16 F_m (g := (mkF m 28 #[.val (.ref a0_), .val (.ref a1_), .val (.int 1), .unset, .unset] [(.ref a0_), (.ref a1_)])) rfl rfl (hb hby d11_28)
  refine Go.st st17 ?_
  show Go _ _ _ _ _ _ _ (T17.setTop (mkF m 31 _ [(.ref am), (.ref a1_)]))
  obtain ⟨cl18, Ar18, -, S18, M18, H18, -⟩ := id V_m
  have hin18 : ¬ ((2 : Int32) < 0 ∨ cl18.slots.size ≤ ((2 : Int32)).toNatClampNeg) := inb_of S18 ⟨by decide, by decide⟩
  have hat18 : cl18.slots[((2 : Int32)).toNatClampNeg]? = some (.ref y1) := H18.at hin18 rfl
  refine Go.st (t' := T17.setTop (mkF m 35 #[.val (.ref a0_), .val (.ref a1_), .val (.int 1), .unset, .unset] [(.ref y1), (.ref a1_)])) (fun target kt => ?_) ?_
  · refine XS.iconst X17.here hx rfl (hb hby d11_31) ?_
    refine XS.iloadN X17.here hx rfl (hb hby d11_32) rfl ?_
    refine XS.imul X17.here hx rfl (hb hby d11_33) rfl ?_
    refine X17.aaload hx (j := (2 : Int32)) (v := (.ref y1)) (by rw [e17]; exact Ar18.1) (State.isArrayOf_alike hZ.alike Ar18.2.1) rfl Ar18.2.2 hin18 hat18 (g := (mkF m 34 #[.val (.ref a0_), .val (.ref a1_), .val (.int 1), .unset, .unset] [(.int 2), (.ref am), (.ref a1_)])) rfl rfl (hb hby d11_34) _ ?_
    exact kt
  obtain ⟨cq19, kq19, q19a, q19b, q19c⟩ := isOf hZ e17 E_a1_
  obtain ⟨_, _, ⟨T19, L19, k19, n19⟩, -, X19, ⟨Lc19, hQ19, l19, y19, z19⟩, st19⟩ := X17.virtualBack hx (y := (⟨sq1, "equals", "(Ljava/lang/Object;)Z"⟩ : MethodName)) (z := (⟨sq2, "equals", "(Ljava/lang/Object;)Z"⟩ : MethodName)) hown (mvT hZ (hw _ tw131)) (mvT hZ (hw _ tw132)) (own_nf (y := (⟨sq1, "getClass", "()Ljava/lang/Class;"⟩ : MethodName)) (args := #[]) (notFace_of_selects (args := #[]) (mvT hZ (hw _ tw85))) rfl (mvT hZ (hw _ tw84))) (mvT hZ (hw _ tw134)) (mvT hZ (hw _ tw135)) (by decide) (backOf (W := 0) (rm23_eq l Z a0 hw [] a1_ y1 wcs vn v1 kx k1 xn x1 h0 n0 (Nat.le_trans Z0 K0.1) O0 S_CS hcs E_a1_ Fv_a1_ Fc_a1_ E_y1 Fv_y1 Fc_y1 V_a1 V_y1 ne1 hcd1) hZ (hw _ tw136) (hw _ tw20) (by decide) (by decide)) q19a q19c (g := (mkF m 35 #[.val (.ref a0_), .val (.ref a1_), .val (.int 1), .unset, .unset] [(.ref y1), (.ref a1_)])) rfl (by rw [hml]; rfl) (Steps.refl _) (argsL := [(.ref y1)]) (rest := []) (lenOf pd6 rfl) rfl (by show 2 * 0 + _ ≤ _; exact Nat.le_of_eq rfl) (hb hby d11_35) (fun _ _ => ⟨rfl, e17, (by decide : 0 + 0 ≤ _), (by decide : 0 + 0 ≤ _)⟩)
  dsimp only [Pt.U, Pt.locs, Pt.cells, Pt.slots] at X19 l19 y19 z19 st19 hQ19
  subst l19 y19 z19
  obtain ⟨rfl, Nq19, eq19⟩ := hQ19
  have N19 := Fr.app N15 Nq19
  refine Go.by st19 ?_
  show Go _ _ _ _ _ _ _ (T19.setTop (mkF m 38 _ [(.int 1)]))
  refine Go.st (t' := T19.setTop (mkF m 42 #[.val (.ref a0_), .val (.ref a1_), .val (.int 1), .unset, .unset] [(.int 1)])) (fun target kt => ?_) ?_
  · refine XS.ifNo X19.here hx rfl (hb hby d11_38) rfl ((if0 _ _).trans (feq (by decide : ¬ ((1 : Int32) = (0 : Int32)))).1) ?_
    refine XS.iloadN X19.here hx rfl (hb hby d11_41) rfl ?_
    exact kt
  refine Go.ret X19 (v := some (.int 1)) (fun h => by rw [hret] at h; cases h) hlk (fun fs hr => retI X19 hx hret (hb hby d11_42) hr) ?_ (by decide) (by decide)
  show Q11_ne_eq_2_4 Z a0_ a1_ pch wcs am km y0 u0 y1 u1 vn kx xn v0 k0 x0 v1 k1 x1 h0 n0 _ T19.heap _
  rw [eq19]
  exact ⟨rfl, N19, rfl⟩
theorem ef11_ne_ne_2_4 (m : MethodId) (x0 : Addr) (x1 : Addr) : entryFrame m #[(.ref x0), (.ref x1)] 5 = mkF m 0 #[.val (.ref x0), .val (.ref x1), .unset, .unset, .unset] [] := by first | (simp [entryFrame, mkF, argsToLocals, Value.category]; done) | rfl
def Q11_ne_ne_2_4 (Z : State) (a0_ : Addr) (a1_ : Addr) (pch : Int32) (wcs : Int32) (am : Addr) (km : ClassId) (y0 : Addr) (u0 : Value) (y1 : Addr) (u1 : Value) (vn : Addr) (kx : ClassId) (xn : Int32) (v0 : Addr) (k0 : ClassId) (x0 : Int32) (v1 : Addr) (k1 : ClassId) (x1 : Int32) (h0 : Heap) (n0 : Nat) (v : Option Value) (h : Heap) (L : List Loc) : Prop := v = some (.int (-1)) ∧ Fr n0 L ∧ h = h0
theorem rm11_ne_ne_2_4 (l : Launch) (Z : State) (a0 : Array Value) (hw : ∀ d ∈ tables_1, d.before a0 Z = true) (ws : List Jvm.Cond) (a0_ : Addr) (a1_ : Addr) (pch : Int32) (wcs : Int32) (am : Addr) (km : ClassId) (y0 : Addr) (u0 : Value) (y1 : Addr) (u1 : Value) (vn : Addr) (kx : ClassId) (xn : Int32) (v0 : Addr) (k0 : ClassId) (x0 : Int32) (v1 : Addr) (k1 : ClassId) (x1 : Int32) (h0 : Heap) (n0 : Nat) (Z0 : n0 ≤ h0.size) (O0 : Old Z n0 h0) (S_CS : Sta Z Z.heap sq2 "COMPACT_STRINGS" "Z" (.int wcs)) (hcs : ¬ (wcs = (0 : Int32))) (E0 : Exa Z h0 a0_ sq0) (F_m : Fld Z h0 a0_ sq0 "members" sq3 (.ref am)) (F_i : Fld Z h0 a0_ sq0 "index" "[I" .null) (F_s : Fld Z h0 a0_ sq0 "size" "I" (.int 2)) (F_c : Fld Z h0 a0_ sq0 "changes" "I" (.int pch)) (E_m : Exa Z h0 am sq3) (V_m : Arv Z h0 am km (.object sq1) (4 : Int32) [(.ref y0), u0, (.ref y1), u1] .null) (E_a1_ : Exa Z h0 a1_ sq2) (Fv_a1_ : Fld Z h0 a1_ sq2 "value" "[B" (.ref vn)) (Fc_a1_ : Fld Z h0 a1_ sq2 "coder" "B" (.int 0)) (V_a1 : Arv Z h0 vn kx .byte (1 : Int32) [(.int xn)] (.int 0)) (E_y0 : Exa Z h0 y0 sq2) (Fv_y0 : Fld Z h0 y0 sq2 "value" "[B" (.ref v0)) (Fc_y0 : Fld Z h0 y0 sq2 "coder" "B" (.int 0)) (V_y0 : Arv Z h0 v0 k0 .byte (1 : Int32) [(.int x0)] (.int 0)) (ne0 : a1_ ≠ y0) (E_y1 : Exa Z h0 y1 sq2) (Fv_y1 : Fld Z h0 y1 sq2 "value" "[B" (.ref v1)) (Fc_y1 : Fld Z h0 y1 sq2 "coder" "B" (.int 0)) (V_y1 : Arv Z h0 v1 k1 .byte (1 : Int32) [(.int x1)] (.int 0)) (ne1 : a1_ ≠ y1) (hcd0 : ¬ (xn = x0)) (hcd1 : ¬ (xn = x1)) :
    Met l Z ws (⟨sq0, "find", "(Ljava/lang/Object;)I"⟩ : MethodName) prog_14_method_11_code 5 (some .int) (Rm 2 0 0 28) #[(.ref a0_), (.ref a1_)] h0 (Q11_ne_ne_2_4 Z a0_ a1_ pch wcs am km y0 u0 y1 u1 vn kx xn v0 k0 x0 v1 k1 x1 h0 n0) := by
  refine Met.enter (L0 := #[.val (.ref a0_), .val (.ref a1_), .unset, .unset, .unset]) (plainFor_of_name pn10) (fun m => ef11_ne_ne_2_4 m a0_ a1_) ?_
  intro p e s m below meth c s₁ hx hby hml hown hnm hret hlk hZ X0 e0
  have N0 := Fr.nil n0
  have K0 : Keep h0 h0 [] := Keep.refl h0 _
  refine Go.st (t' := s₁.setTop (mkF m 1 #[.val (.ref a0_), .val (.ref a1_), .unset, .unset, .unset] [(.ref a1_)])) (fun target kt => ?_) ?_
  · refine XS.aloadN X0.here hx rfl (hb hby d11_0) rfl rfl ?_
    exact kt
  obtain ⟨T10, X10, e10, st10⟩ := instY X0 hx hZ hown (hw _ tw65) e0 (Ins.self E_a1_) (g := (mkF m 1 #[.val (.ref a0_), .val (.ref a1_), .unset, .unset, .unset] [(.ref a1_)])) rfl rfl (hb hby d11_1)
  refine Go.st st10 ?_
  show Go _ _ _ _ _ _ _ (T10.setTop (mkF m 4 _ [(.int 1)]))
  refine Go.st (t' := T10.setTop (mkF m 10 #[.val (.ref a0_), .val (.ref a1_), .unset, .unset, .unset] [(.ref a0_)])) (fun target kt => ?_) ?_
  · refine XS.ifYes X10.here hx rfl (pc0 := 4) (pc' := 9) rfl (hb hby d11_4) rfl ((if0 _ _).trans (feq (by decide : ¬ ((1 : Int32) = (0 : Int32)))).2) (by decide) (by decide) ?_
    refine XS.aloadN X10.here hx rfl (hb hby d11_9) rfl rfl ?_
    exact kt
  obtain ⟨T11, X11, e11, st11⟩ := getF X10 hx hZ hown (host := "") (Or.inl (hw _ tw66)) Via.refl e10 F_i (g := (mkF m 10 #[.val (.ref a0_), .val (.ref a1_), .unset, .unset, .unset] [(.ref a0_)])) rfl rfl (hb hby d11_10)
  refine Go.st st11 ?_
  show Go _ _ _ _ _ _ _ (T11.setTop (mkF m 13 _ [.null]))
  refine Go.st (t' := T11.setTop (mkF m 20 #[.val (.ref a0_), .val (.ref a1_), .val (.int 0), .unset, .unset] [(.ref a0_), (.int 0)])) (fun target kt => ?_) ?_
  · refine XS.ifnonnullNo X11.here hx rfl (hb hby d11_13) rfl ?_
    refine XS.iconst X11.here hx rfl (hb hby d11_16) ?_
    refine XS.istoreN X11.here hx rfl (hb hby d11_17) rfl (l' := #[.val (.ref a0_), .val (.ref a1_), .val (.int 0), .unset, .unset]) rfl ?_
    refine XS.iloadN X11.here hx rfl (hb hby d11_18) rfl ?_
    refine XS.aloadN X11.here hx rfl (hb hby d11_19) rfl rfl ?_
    exact kt
  obtain ⟨T12, X12, e12, st12⟩ := getF X11 hx hZ hown (host := "") (Or.inl (hw _ tw68)) Via.refl e11 F_s (g := (mkF m 20 #[.val (.ref a0_), .val (.ref a1_), .val (.int 0), .unset, .unset] [(.ref a0_), (.int 0)])) rfl rfl (hb hby d11_20)
  refine Go.st st12 ?_
  show Go _ _ _ _ _ _ _ (T12.setTop (mkF m 23 _ [(.int 2), (.int 0)]))
  refine Go.st (t' := T12.setTop (mkF m 28 #[.val (.ref a0_), .val (.ref a1_), .val (.int 0), .unset, .unset] [(.ref a0_), (.ref a1_)])) (fun target kt => ?_) ?_
  · refine XS.icmpNo X12.here hx rfl (hb hby d11_23) rfl (tlt (by decide : (0 : Int32) < (2 : Int32))).2.1 ?_
    refine XS.aloadN X12.here hx rfl (hb hby d11_26) rfl rfl ?_
    refine XS.aloadN X12.here hx rfl (hb hby d11_27) rfl rfl ?_
    exact kt
  obtain ⟨T13, X13, e13, st13⟩ := getF X12 hx hZ hown (host := "") (Or.inl (hw _ tw16)) Via.refl e12 F_m (g := (mkF m 28 #[.val (.ref a0_), .val (.ref a1_), .val (.int 0), .unset, .unset] [(.ref a0_), (.ref a1_)])) rfl rfl (hb hby d11_28)
  refine Go.st st13 ?_
  show Go _ _ _ _ _ _ _ (T13.setTop (mkF m 31 _ [(.ref am), (.ref a1_)]))
  obtain ⟨cl14, Ar14, -, S14, M14, H14, -⟩ := id V_m
  have hin14 : ¬ ((0 : Int32) < 0 ∨ cl14.slots.size ≤ ((0 : Int32)).toNatClampNeg) := inb_of S14 ⟨by decide, by decide⟩
  have hat14 : cl14.slots[((0 : Int32)).toNatClampNeg]? = some (.ref y0) := H14.at hin14 rfl
  refine Go.st (t' := T13.setTop (mkF m 35 #[.val (.ref a0_), .val (.ref a1_), .val (.int 0), .unset, .unset] [(.ref y0), (.ref a1_)])) (fun target kt => ?_) ?_
  · refine XS.iconst X13.here hx rfl (hb hby d11_31) ?_
    refine XS.iloadN X13.here hx rfl (hb hby d11_32) rfl ?_
    refine XS.imul X13.here hx rfl (hb hby d11_33) rfl ?_
    refine X13.aaload hx (j := (0 : Int32)) (v := (.ref y0)) (by rw [e13]; exact Ar14.1) (State.isArrayOf_alike hZ.alike Ar14.2.1) rfl Ar14.2.2 hin14 hat14 (g := (mkF m 34 #[.val (.ref a0_), .val (.ref a1_), .val (.int 0), .unset, .unset] [(.int 0), (.ref am), (.ref a1_)])) rfl rfl (hb hby d11_34) _ ?_
    exact kt
  obtain ⟨cq15, kq15, q15a, q15b, q15c⟩ := isOf hZ e13 E_a1_
  obtain ⟨_, _, ⟨T15, L15, k15, n15⟩, -, X15, ⟨Lc15, hQ15, l15, y15, z15⟩, st15⟩ := X13.virtualBack hx (y := (⟨sq1, "equals", "(Ljava/lang/Object;)Z"⟩ : MethodName)) (z := (⟨sq2, "equals", "(Ljava/lang/Object;)Z"⟩ : MethodName)) hown (mvT hZ (hw _ tw131)) (mvT hZ (hw _ tw132)) (own_nf (y := (⟨sq1, "getClass", "()Ljava/lang/Class;"⟩ : MethodName)) (args := #[]) (notFace_of_selects (args := #[]) (mvT hZ (hw _ tw85))) rfl (mvT hZ (hw _ tw84))) (mvT hZ (hw _ tw134)) (mvT hZ (hw _ tw135)) (by decide) (backOf (W := 0) (rm23_ne l Z a0 hw [] a1_ y0 wcs vn v0 kx k0 xn x0 h0 n0 (Nat.le_trans Z0 K0.1) O0 S_CS hcs E_a1_ Fv_a1_ Fc_a1_ E_y0 Fv_y0 Fc_y0 V_a1 V_y0 ne0 hcd0) hZ (hw _ tw136) (hw _ tw20) (by decide) (by decide)) q15a q15c (g := (mkF m 35 #[.val (.ref a0_), .val (.ref a1_), .val (.int 0), .unset, .unset] [(.ref y0), (.ref a1_)])) rfl (by rw [hml]; rfl) (Steps.refl _) (argsL := [(.ref y0)]) (rest := []) (lenOf pd6 rfl) rfl (by show 2 * 0 + _ ≤ _; exact Nat.le_of_eq rfl) (hb hby d11_35) (fun _ _ => ⟨rfl, e13, (by decide : 0 + 0 ≤ _), (by decide : 0 + 0 ≤ _)⟩)
  dsimp only [Pt.U, Pt.locs, Pt.cells, Pt.slots] at X15 l15 y15 z15 st15 hQ15
  subst l15 y15 z15
  obtain ⟨rfl, Nq15, eq15⟩ := hQ15
  have N15 := Fr.app N0 Nq15
  refine Go.by st15 ?_
  show Go _ _ _ _ _ _ _ (T15.setTop (mkF m 38 _ [(.int 0)]))
  refine Go.st (t' := T15.setTop (mkF m 20 #[.val (.ref a0_), .val (.ref a1_), .val (.int 1), .unset, .unset] [(.ref a0_), (.int 1)])) (fun target kt => ?_) ?_
  · refine XS.ifYes X15.here hx rfl (pc0 := 38) (pc' := 43) rfl (hb hby d11_38) rfl ((if0 _ _).trans (teq (by decide : (0 : Int32) = (0 : Int32))).1) (by decide) (by decide) ?_
    refine XS.iinc X15.here hx rfl (hb hby d11_43) rfl (l' := #[.val (.ref a0_), .val (.ref a1_), .val (.int 1), .unset, .unset]) rfl ?_
    refine XS.goto X15.here hx rfl (pc0 := 46) (pc' := 18) rfl (hb hby d11_46) (by decide) (by decide) ?_
    refine XS.iloadN X15.here hx rfl (hb hby d11_18) rfl ?_
    refine XS.aloadN X15.here hx rfl (hb hby d11_19) rfl rfl ?_
    exact kt
  obtain ⟨T16, X16, e16, st16⟩ := getF X15 hx hZ hown (host := "") (Or.inl (hw _ tw68)) Via.refl eq15 F_s (g := (mkF m 20 #[.val (.ref a0_), .val (.ref a1_), .val (.int 1), .unset, .unset] [(.ref a0_), (.int 1)])) rfl rfl (hb hby d11_20)
  refine Go.st st16 ?_
  show Go _ _ _ _ _ _ _ (T16.setTop (mkF m 23 _ [(.int 2), (.int 1)]))
  refine Go.st (t' := T16.setTop (mkF m 28 #[.val (.ref a0_), .val (.ref a1_), .val (.int 1), .unset, .unset] [(.ref a0_), (.ref a1_)])) (fun target kt => ?_) ?_
  · refine XS.icmpNo X16.here hx rfl (hb hby d11_23) rfl (tlt (by decide : (1 : Int32) < (2 : Int32))).2.1 ?_
    refine XS.aloadN X16.here hx rfl (hb hby d11_26) rfl rfl ?_
    refine XS.aloadN X16.here hx rfl (hb hby d11_27) rfl rfl ?_
    exact kt
  obtain ⟨T17, X17, e17, st17⟩ := getF X16 hx hZ hown (host := "") (Or.inl (hw _ tw16)) Via.refl e16 F_m (g := (mkF m 28 #[.val (.ref a0_), .val (.ref a1_), .val (.int 1), .unset, .unset] [(.ref a0_), (.ref a1_)])) rfl rfl (hb hby d11_28)
  refine Go.st st17 ?_
  show Go _ _ _ _ _ _ _ (T17.setTop (mkF m 31 _ [(.ref am), (.ref a1_)]))
  obtain ⟨cl18, Ar18, -, S18, M18, H18, -⟩ := id V_m
  have hin18 : ¬ ((2 : Int32) < 0 ∨ cl18.slots.size ≤ ((2 : Int32)).toNatClampNeg) := inb_of S18 ⟨by decide, by decide⟩
  have hat18 : cl18.slots[((2 : Int32)).toNatClampNeg]? = some (.ref y1) := H18.at hin18 rfl
  refine Go.st (t' := T17.setTop (mkF m 35 #[.val (.ref a0_), .val (.ref a1_), .val (.int 1), .unset, .unset] [(.ref y1), (.ref a1_)])) (fun target kt => ?_) ?_
  · refine XS.iconst X17.here hx rfl (hb hby d11_31) ?_
    refine XS.iloadN X17.here hx rfl (hb hby d11_32) rfl ?_
    refine XS.imul X17.here hx rfl (hb hby d11_33) rfl ?_
    refine X17.aaload hx (j := (2 : Int32)) (v := (.ref y1)) (by rw [e17]; exact Ar18.1) (State.isArrayOf_alike hZ.alike Ar18.2.1) rfl Ar18.2.2 hin18 hat18 (g := (mkF m 34 #[.val (.ref a0_), .val (.ref a1_), .val (.int 1), .unset, .unset] [(.int 2), (.ref am), (.ref a1_)])) rfl rfl (hb hby d11_34) _ ?_
    exact kt
  obtain ⟨cq19, kq19, q19a, q19b, q19c⟩ := isOf hZ e17 E_a1_
  obtain ⟨_, _, ⟨T19, L19, k19, n19⟩, -, X19, ⟨Lc19, hQ19, l19, y19, z19⟩, st19⟩ := X17.virtualBack hx (y := (⟨sq1, "equals", "(Ljava/lang/Object;)Z"⟩ : MethodName)) (z := (⟨sq2, "equals", "(Ljava/lang/Object;)Z"⟩ : MethodName)) hown (mvT hZ (hw _ tw131)) (mvT hZ (hw _ tw132)) (own_nf (y := (⟨sq1, "getClass", "()Ljava/lang/Class;"⟩ : MethodName)) (args := #[]) (notFace_of_selects (args := #[]) (mvT hZ (hw _ tw85))) rfl (mvT hZ (hw _ tw84))) (mvT hZ (hw _ tw134)) (mvT hZ (hw _ tw135)) (by decide) (backOf (W := 0) (rm23_ne l Z a0 hw [] a1_ y1 wcs vn v1 kx k1 xn x1 h0 n0 (Nat.le_trans Z0 K0.1) O0 S_CS hcs E_a1_ Fv_a1_ Fc_a1_ E_y1 Fv_y1 Fc_y1 V_a1 V_y1 ne1 hcd1) hZ (hw _ tw136) (hw _ tw20) (by decide) (by decide)) q19a q19c (g := (mkF m 35 #[.val (.ref a0_), .val (.ref a1_), .val (.int 1), .unset, .unset] [(.ref y1), (.ref a1_)])) rfl (by rw [hml]; rfl) (Steps.refl _) (argsL := [(.ref y1)]) (rest := []) (lenOf pd6 rfl) rfl (by show 2 * 0 + _ ≤ _; exact Nat.le_of_eq rfl) (hb hby d11_35) (fun _ _ => ⟨rfl, e17, (by decide : 0 + 0 ≤ _), (by decide : 0 + 0 ≤ _)⟩)
  dsimp only [Pt.U, Pt.locs, Pt.cells, Pt.slots] at X19 l19 y19 z19 st19 hQ19
  subst l19 y19 z19
  obtain ⟨rfl, Nq19, eq19⟩ := hQ19
  have N19 := Fr.app N15 Nq19
  refine Go.by st19 ?_
  show Go _ _ _ _ _ _ _ (T19.setTop (mkF m 38 _ [(.int 0)]))
  refine Go.st (t' := T19.setTop (mkF m 20 #[.val (.ref a0_), .val (.ref a1_), .val (.int 2), .unset, .unset] [(.ref a0_), (.int 2)])) (fun target kt => ?_) ?_
  · refine XS.ifYes X19.here hx rfl (pc0 := 38) (pc' := 43) rfl (hb hby d11_38) rfl ((if0 _ _).trans (teq (by decide : (0 : Int32) = (0 : Int32))).1) (by decide) (by decide) ?_
    refine XS.iinc X19.here hx rfl (hb hby d11_43) rfl (l' := #[.val (.ref a0_), .val (.ref a1_), .val (.int 2), .unset, .unset]) rfl ?_
    refine XS.goto X19.here hx rfl (pc0 := 46) (pc' := 18) rfl (hb hby d11_46) (by decide) (by decide) ?_
    refine XS.iloadN X19.here hx rfl (hb hby d11_18) rfl ?_
    refine XS.aloadN X19.here hx rfl (hb hby d11_19) rfl rfl ?_
    exact kt
  obtain ⟨T20, X20, e20, st20⟩ := getF X19 hx hZ hown (host := "") (Or.inl (hw _ tw68)) Via.refl eq19 F_s (g := (mkF m 20 #[.val (.ref a0_), .val (.ref a1_), .val (.int 2), .unset, .unset] [(.ref a0_), (.int 2)])) rfl rfl (hb hby d11_20)
  refine Go.st st20 ?_
  show Go _ _ _ _ _ _ _ (T20.setTop (mkF m 23 _ [(.int 2), (.int 2)]))
  refine Go.st (t' := T20.setTop (mkF m 50 #[.val (.ref a0_), .val (.ref a1_), .val (.int 2), .unset, .unset] [(.int (-1))])) (fun target kt => ?_) ?_
  · refine XS.icmpYes X20.here hx rfl (pc0 := 23) (pc' := 49) rfl (hb hby d11_23) rfl (flt (by decide : ¬ ((2 : Int32) < (2 : Int32)))).2.1 (by decide) (by decide) ?_
    refine XS.iconst X20.here hx rfl (hb hby d11_49) ?_
    exact kt
  refine Go.ret X20 (v := some (.int (-1))) (fun h => by rw [hret] at h; cases h) hlk (fun fs hr => retI X20 hx hret (hb hby d11_50) hr) ?_ (by decide) (by decide)
  show Q11_ne_ne_2_4 Z a0_ a1_ pch wcs am km y0 u0 y1 u1 vn kx xn v0 k0 x0 v1 k1 x1 h0 n0 _ T20.heap _
  rw [e20]
  exact ⟨rfl, N19, rfl⟩
theorem ef11_same_1_4 (m : MethodId) (x0 : Addr) (x1 : Addr) : entryFrame m #[(.ref x0), (.ref x1)] 5 = mkF m 0 #[.val (.ref x0), .val (.ref x1), .unset, .unset, .unset] [] := by first | (simp [entryFrame, mkF, argsToLocals, Value.category]; done) | rfl
def Q11_same_1_4 (Z : State) (a0_ : Addr) (y0 : Addr) (pch : Int32) (wcs : Int32) (am : Addr) (km : ClassId) (u0 : Value) (h0 : Heap) (n0 : Nat) (v : Option Value) (h : Heap) (L : List Loc) : Prop := v = some (.int 0) ∧ Fr n0 L ∧ h = h0
theorem rm11_same_1_4 (l : Launch) (Z : State) (a0 : Array Value) (hw : ∀ d ∈ tables_1, d.before a0 Z = true) (ws : List Jvm.Cond) (a0_ : Addr) (y0 : Addr) (pch : Int32) (wcs : Int32) (am : Addr) (km : ClassId) (u0 : Value) (h0 : Heap) (n0 : Nat) (Z0 : n0 ≤ h0.size) (O0 : Old Z n0 h0) (S_CS : Sta Z Z.heap sq2 "COMPACT_STRINGS" "Z" (.int wcs)) (hcs : ¬ (wcs = (0 : Int32))) (E0 : Exa Z h0 a0_ sq0) (F_m : Fld Z h0 a0_ sq0 "members" sq3 (.ref am)) (F_i : Fld Z h0 a0_ sq0 "index" "[I" .null) (F_s : Fld Z h0 a0_ sq0 "size" "I" (.int 1)) (F_c : Fld Z h0 a0_ sq0 "changes" "I" (.int pch)) (E_m : Exa Z h0 am sq3) (V_m : Arv Z h0 am km (.object sq1) (4 : Int32) [(.ref y0), u0, .null, .null] .null) (E_y0 : Exa Z h0 y0 sq2) :
    Met l Z ws (⟨sq0, "find", "(Ljava/lang/Object;)I"⟩ : MethodName) prog_14_method_11_code 5 (some .int) (Rm 1 0 0 14) #[(.ref a0_), (.ref y0)] h0 (Q11_same_1_4 Z a0_ y0 pch wcs am km u0 h0 n0) := by
  refine Met.enter (L0 := #[.val (.ref a0_), .val (.ref y0), .unset, .unset, .unset]) (plainFor_of_name pn10) (fun m => ef11_same_1_4 m a0_ y0) ?_
  intro p e s m below meth c s₁ hx hby hml hown hnm hret hlk hZ X0 e0
  have N0 := Fr.nil n0
  have K0 : Keep h0 h0 [] := Keep.refl h0 _
  refine Go.st (t' := s₁.setTop (mkF m 1 #[.val (.ref a0_), .val (.ref y0), .unset, .unset, .unset] [(.ref y0)])) (fun target kt => ?_) ?_
  · refine XS.aloadN X0.here hx rfl (hb hby d11_0) rfl rfl ?_
    exact kt
  obtain ⟨T10, X10, e10, st10⟩ := instY X0 hx hZ hown (hw _ tw65) e0 (Ins.self E_y0) (g := (mkF m 1 #[.val (.ref a0_), .val (.ref y0), .unset, .unset, .unset] [(.ref y0)])) rfl rfl (hb hby d11_1)
  refine Go.st st10 ?_
  show Go _ _ _ _ _ _ _ (T10.setTop (mkF m 4 _ [(.int 1)]))
  refine Go.st (t' := T10.setTop (mkF m 10 #[.val (.ref a0_), .val (.ref y0), .unset, .unset, .unset] [(.ref a0_)])) (fun target kt => ?_) ?_
  · refine XS.ifYes X10.here hx rfl (pc0 := 4) (pc' := 9) rfl (hb hby d11_4) rfl ((if0 _ _).trans (feq (by decide : ¬ ((1 : Int32) = (0 : Int32)))).2) (by decide) (by decide) ?_
    refine XS.aloadN X10.here hx rfl (hb hby d11_9) rfl rfl ?_
    exact kt
  obtain ⟨T11, X11, e11, st11⟩ := getF X10 hx hZ hown (host := "") (Or.inl (hw _ tw66)) Via.refl e10 F_i (g := (mkF m 10 #[.val (.ref a0_), .val (.ref y0), .unset, .unset, .unset] [(.ref a0_)])) rfl rfl (hb hby d11_10)
  refine Go.st st11 ?_
  show Go _ _ _ _ _ _ _ (T11.setTop (mkF m 13 _ [.null]))
  refine Go.st (t' := T11.setTop (mkF m 20 #[.val (.ref a0_), .val (.ref y0), .val (.int 0), .unset, .unset] [(.ref a0_), (.int 0)])) (fun target kt => ?_) ?_
  · refine XS.ifnonnullNo X11.here hx rfl (hb hby d11_13) rfl ?_
    refine XS.iconst X11.here hx rfl (hb hby d11_16) ?_
    refine XS.istoreN X11.here hx rfl (hb hby d11_17) rfl (l' := #[.val (.ref a0_), .val (.ref y0), .val (.int 0), .unset, .unset]) rfl ?_
    refine XS.iloadN X11.here hx rfl (hb hby d11_18) rfl ?_
    refine XS.aloadN X11.here hx rfl (hb hby d11_19) rfl rfl ?_
    exact kt
  obtain ⟨T12, X12, e12, st12⟩ := getF X11 hx hZ hown (host := "") (Or.inl (hw _ tw68)) Via.refl e11 F_s (g := (mkF m 20 #[.val (.ref a0_), .val (.ref y0), .val (.int 0), .unset, .unset] [(.ref a0_), (.int 0)])) rfl rfl (hb hby d11_20)
  refine Go.st st12 ?_
  show Go _ _ _ _ _ _ _ (T12.setTop (mkF m 23 _ [(.int 1), (.int 0)]))
  refine Go.st (t' := T12.setTop (mkF m 28 #[.val (.ref a0_), .val (.ref y0), .val (.int 0), .unset, .unset] [(.ref a0_), (.ref y0)])) (fun target kt => ?_) ?_
  · refine XS.icmpNo X12.here hx rfl (hb hby d11_23) rfl (tlt (by decide : (0 : Int32) < (1 : Int32))).2.1 ?_
    refine XS.aloadN X12.here hx rfl (hb hby d11_26) rfl rfl ?_
    refine XS.aloadN X12.here hx rfl (hb hby d11_27) rfl rfl ?_
    exact kt
  obtain ⟨T13, X13, e13, st13⟩ := getF X12 hx hZ hown (host := "") (Or.inl (hw _ tw16)) Via.refl e12 F_m (g := (mkF m 28 #[.val (.ref a0_), .val (.ref y0), .val (.int 0), .unset, .unset] [(.ref a0_), (.ref y0)])) rfl rfl (hb hby d11_28)
  refine Go.st st13 ?_
  show Go _ _ _ _ _ _ _ (T13.setTop (mkF m 31 _ [(.ref am), (.ref y0)]))
  obtain ⟨cl14, Ar14, -, S14, M14, H14, -⟩ := id V_m
  have hin14 : ¬ ((0 : Int32) < 0 ∨ cl14.slots.size ≤ ((0 : Int32)).toNatClampNeg) := inb_of S14 ⟨by decide, by decide⟩
  have hat14 : cl14.slots[((0 : Int32)).toNatClampNeg]? = some (.ref y0) := H14.at hin14 rfl
  refine Go.st (t' := T13.setTop (mkF m 35 #[.val (.ref a0_), .val (.ref y0), .val (.int 0), .unset, .unset] [(.ref y0), (.ref y0)])) (fun target kt => ?_) ?_
  · refine XS.iconst X13.here hx rfl (hb hby d11_31) ?_
    refine XS.iloadN X13.here hx rfl (hb hby d11_32) rfl ?_
    refine XS.imul X13.here hx rfl (hb hby d11_33) rfl ?_
    refine X13.aaload hx (j := (0 : Int32)) (v := (.ref y0)) (by rw [e13]; exact Ar14.1) (State.isArrayOf_alike hZ.alike Ar14.2.1) rfl Ar14.2.2 hin14 hat14 (g := (mkF m 34 #[.val (.ref a0_), .val (.ref y0), .val (.int 0), .unset, .unset] [(.int 0), (.ref am), (.ref y0)])) rfl rfl (hb hby d11_34) _ ?_
    exact kt
  obtain ⟨cq15, kq15, q15a, q15b, q15c⟩ := isOf hZ e13 E_y0
  obtain ⟨_, _, ⟨T15, L15, k15, n15⟩, -, X15, ⟨Lc15, hQ15, l15, y15, z15⟩, st15⟩ := X13.virtualBack hx (y := (⟨sq1, "equals", "(Ljava/lang/Object;)Z"⟩ : MethodName)) (z := (⟨sq2, "equals", "(Ljava/lang/Object;)Z"⟩ : MethodName)) hown (mvT hZ (hw _ tw131)) (mvT hZ (hw _ tw132)) (own_nf (y := (⟨sq1, "getClass", "()Ljava/lang/Class;"⟩ : MethodName)) (args := #[]) (notFace_of_selects (args := #[]) (mvT hZ (hw _ tw85))) rfl (mvT hZ (hw _ tw84))) (mvT hZ (hw _ tw134)) (mvT hZ (hw _ tw135)) (by decide) (backOf (W := 0) (rm23_same l Z a0 hw [] y0 h0 n0 (Nat.le_trans Z0 K0.1) O0  ) hZ (hw _ tw136) (hw _ tw20) (by decide) (by decide)) q15a q15c (g := (mkF m 35 #[.val (.ref a0_), .val (.ref y0), .val (.int 0), .unset, .unset] [(.ref y0), (.ref y0)])) rfl (by rw [hml]; rfl) (Steps.refl _) (argsL := [(.ref y0)]) (rest := []) (lenOf pd6 rfl) rfl (by show 2 * 0 + _ ≤ _; exact Nat.le_of_eq rfl) (hb hby d11_35) (fun _ _ => ⟨rfl, e13, (by decide : 0 + 0 ≤ _), (by decide : 0 + 0 ≤ _)⟩)
  dsimp only [Pt.U, Pt.locs, Pt.cells, Pt.slots] at X15 l15 y15 z15 st15 hQ15
  subst l15 y15 z15
  obtain ⟨rfl, Nq15, eq15⟩ := hQ15
  have N15 := Fr.app N0 Nq15
  refine Go.by st15 ?_
  show Go _ _ _ _ _ _ _ (T15.setTop (mkF m 38 _ [(.int 1)]))
  refine Go.st (t' := T15.setTop (mkF m 42 #[.val (.ref a0_), .val (.ref y0), .val (.int 0), .unset, .unset] [(.int 0)])) (fun target kt => ?_) ?_
  · refine XS.ifNo X15.here hx rfl (hb hby d11_38) rfl ((if0 _ _).trans (feq (by decide : ¬ ((1 : Int32) = (0 : Int32)))).1) ?_
    refine XS.iloadN X15.here hx rfl (hb hby d11_41) rfl ?_
    exact kt
  refine Go.ret X15 (v := some (.int 0)) (fun h => by rw [hret] at h; cases h) hlk (fun fs hr => retI X15 hx hret (hb hby d11_42) hr) ?_ (by decide) (by decide)
  show Q11_same_1_4 Z a0_ y0 pch wcs am km u0 h0 n0 _ T15.heap _
  rw [eq15]
  exact ⟨rfl, N15, rfl⟩
theorem ef11_same_1_6 (m : MethodId) (x0 : Addr) (x1 : Addr) : entryFrame m #[(.ref x0), (.ref x1)] 5 = mkF m 0 #[.val (.ref x0), .val (.ref x1), .unset, .unset, .unset] [] := by first | (simp [entryFrame, mkF, argsToLocals, Value.category]; done) | rfl
def Q11_same_1_6 (Z : State) (a0_ : Addr) (y0 : Addr) (pch : Int32) (wcs : Int32) (am : Addr) (km : ClassId) (u0 : Value) (h0 : Heap) (n0 : Nat) (v : Option Value) (h : Heap) (L : List Loc) : Prop := v = some (.int 0) ∧ Fr n0 L ∧ h = h0
theorem rm11_same_1_6 (l : Launch) (Z : State) (a0 : Array Value) (hw : ∀ d ∈ tables_1, d.before a0 Z = true) (ws : List Jvm.Cond) (a0_ : Addr) (y0 : Addr) (pch : Int32) (wcs : Int32) (am : Addr) (km : ClassId) (u0 : Value) (h0 : Heap) (n0 : Nat) (Z0 : n0 ≤ h0.size) (O0 : Old Z n0 h0) (S_CS : Sta Z Z.heap sq2 "COMPACT_STRINGS" "Z" (.int wcs)) (hcs : ¬ (wcs = (0 : Int32))) (E0 : Exa Z h0 a0_ sq0) (F_m : Fld Z h0 a0_ sq0 "members" sq3 (.ref am)) (F_i : Fld Z h0 a0_ sq0 "index" "[I" .null) (F_s : Fld Z h0 a0_ sq0 "size" "I" (.int 1)) (F_c : Fld Z h0 a0_ sq0 "changes" "I" (.int pch)) (E_m : Exa Z h0 am sq3) (V_m : Arv Z h0 am km (.object sq1) (6 : Int32) [(.ref y0), u0, .null, .null, .null, .null] .null) (E_y0 : Exa Z h0 y0 sq2) :
    Met l Z ws (⟨sq0, "find", "(Ljava/lang/Object;)I"⟩ : MethodName) prog_14_method_11_code 5 (some .int) (Rm 1 0 0 14) #[(.ref a0_), (.ref y0)] h0 (Q11_same_1_6 Z a0_ y0 pch wcs am km u0 h0 n0) := by
  refine Met.enter (L0 := #[.val (.ref a0_), .val (.ref y0), .unset, .unset, .unset]) (plainFor_of_name pn10) (fun m => ef11_same_1_6 m a0_ y0) ?_
  intro p e s m below meth c s₁ hx hby hml hown hnm hret hlk hZ X0 e0
  have N0 := Fr.nil n0
  have K0 : Keep h0 h0 [] := Keep.refl h0 _
  refine Go.st (t' := s₁.setTop (mkF m 1 #[.val (.ref a0_), .val (.ref y0), .unset, .unset, .unset] [(.ref y0)])) (fun target kt => ?_) ?_
  · refine XS.aloadN X0.here hx rfl (hb hby d11_0) rfl rfl ?_
    exact kt
  obtain ⟨T10, X10, e10, st10⟩ := instY X0 hx hZ hown (hw _ tw65) e0 (Ins.self E_y0) (g := (mkF m 1 #[.val (.ref a0_), .val (.ref y0), .unset, .unset, .unset] [(.ref y0)])) rfl rfl (hb hby d11_1)
  refine Go.st st10 ?_
  show Go _ _ _ _ _ _ _ (T10.setTop (mkF m 4 _ [(.int 1)]))
  refine Go.st (t' := T10.setTop (mkF m 10 #[.val (.ref a0_), .val (.ref y0), .unset, .unset, .unset] [(.ref a0_)])) (fun target kt => ?_) ?_
  · refine XS.ifYes X10.here hx rfl (pc0 := 4) (pc' := 9) rfl (hb hby d11_4) rfl ((if0 _ _).trans (feq (by decide : ¬ ((1 : Int32) = (0 : Int32)))).2) (by decide) (by decide) ?_
    refine XS.aloadN X10.here hx rfl (hb hby d11_9) rfl rfl ?_
    exact kt
  obtain ⟨T11, X11, e11, st11⟩ := getF X10 hx hZ hown (host := "") (Or.inl (hw _ tw66)) Via.refl e10 F_i (g := (mkF m 10 #[.val (.ref a0_), .val (.ref y0), .unset, .unset, .unset] [(.ref a0_)])) rfl rfl (hb hby d11_10)
  refine Go.st st11 ?_
  show Go _ _ _ _ _ _ _ (T11.setTop (mkF m 13 _ [.null]))
  refine Go.st (t' := T11.setTop (mkF m 20 #[.val (.ref a0_), .val (.ref y0), .val (.int 0), .unset, .unset] [(.ref a0_), (.int 0)])) (fun target kt => ?_) ?_
  · refine XS.ifnonnullNo X11.here hx rfl (hb hby d11_13) rfl ?_
    refine XS.iconst X11.here hx rfl (hb hby d11_16) ?_
    refine XS.istoreN X11.here hx rfl (hb hby d11_17) rfl (l' := #[.val (.ref a0_), .val (.ref y0), .val (.int 0), .unset, .unset]) rfl ?_
    refine XS.iloadN X11.here hx rfl (hb hby d11_18) rfl ?_
    refine XS.aloadN X11.here hx rfl (hb hby d11_19) rfl rfl ?_
    exact kt
  obtain ⟨T12, X12, e12, st12⟩ := getF X11 hx hZ hown (host := "") (Or.inl (hw _ tw68)) Via.refl e11 F_s (g := (mkF m 20 #[.val (.ref a0_), .val (.ref y0), .val (.int 0), .unset, .unset] [(.ref a0_), (.int 0)])) rfl rfl (hb hby d11_20)
  refine Go.st st12 ?_
  show Go _ _ _ _ _ _ _ (T12.setTop (mkF m 23 _ [(.int 1), (.int 0)]))
  refine Go.st (t' := T12.setTop (mkF m 28 #[.val (.ref a0_), .val (.ref y0), .val (.int 0), .unset, .unset] [(.ref a0_), (.ref y0)])) (fun target kt => ?_) ?_
  · refine XS.icmpNo X12.here hx rfl (hb hby d11_23) rfl (tlt (by decide : (0 : Int32) < (1 : Int32))).2.1 ?_
    refine XS.aloadN X12.here hx rfl (hb hby d11_26) rfl rfl ?_
    refine XS.aloadN X12.here hx rfl (hb hby d11_27) rfl rfl ?_
    exact kt
  obtain ⟨T13, X13, e13, st13⟩ := getF X12 hx hZ hown (host := "") (Or.inl (hw _ tw16)) Via.refl e12 F_m (g := (mkF m 28 #[.val (.ref a0_), .val (.ref y0), .val (.int 0), .unset, .unset] [(.ref a0_), (.ref y0)])) rfl rfl (hb hby d11_28)
  refine Go.st st13 ?_
  show Go _ _ _ _ _ _ _ (T13.setTop (mkF m 31 _ [(.ref am), (.ref y0)]))
  obtain ⟨cl14, Ar14, -, S14, M14, H14, -⟩ := id V_m
  have hin14 : ¬ ((0 : Int32) < 0 ∨ cl14.slots.size ≤ ((0 : Int32)).toNatClampNeg) := inb_of S14 ⟨by decide, by decide⟩
  have hat14 : cl14.slots[((0 : Int32)).toNatClampNeg]? = some (.ref y0) := H14.at hin14 rfl
  refine Go.st (t' := T13.setTop (mkF m 35 #[.val (.ref a0_), .val (.ref y0), .val (.int 0), .unset, .unset] [(.ref y0), (.ref y0)])) (fun target kt => ?_) ?_
  · refine XS.iconst X13.here hx rfl (hb hby d11_31) ?_
    refine XS.iloadN X13.here hx rfl (hb hby d11_32) rfl ?_
    refine XS.imul X13.here hx rfl (hb hby d11_33) rfl ?_
    refine X13.aaload hx (j := (0 : Int32)) (v := (.ref y0)) (by rw [e13]; exact Ar14.1) (State.isArrayOf_alike hZ.alike Ar14.2.1) rfl Ar14.2.2 hin14 hat14 (g := (mkF m 34 #[.val (.ref a0_), .val (.ref y0), .val (.int 0), .unset, .unset] [(.int 0), (.ref am), (.ref y0)])) rfl rfl (hb hby d11_34) _ ?_
    exact kt
  obtain ⟨cq15, kq15, q15a, q15b, q15c⟩ := isOf hZ e13 E_y0
  obtain ⟨_, _, ⟨T15, L15, k15, n15⟩, -, X15, ⟨Lc15, hQ15, l15, y15, z15⟩, st15⟩ := X13.virtualBack hx (y := (⟨sq1, "equals", "(Ljava/lang/Object;)Z"⟩ : MethodName)) (z := (⟨sq2, "equals", "(Ljava/lang/Object;)Z"⟩ : MethodName)) hown (mvT hZ (hw _ tw131)) (mvT hZ (hw _ tw132)) (own_nf (y := (⟨sq1, "getClass", "()Ljava/lang/Class;"⟩ : MethodName)) (args := #[]) (notFace_of_selects (args := #[]) (mvT hZ (hw _ tw85))) rfl (mvT hZ (hw _ tw84))) (mvT hZ (hw _ tw134)) (mvT hZ (hw _ tw135)) (by decide) (backOf (W := 0) (rm23_same l Z a0 hw [] y0 h0 n0 (Nat.le_trans Z0 K0.1) O0  ) hZ (hw _ tw136) (hw _ tw20) (by decide) (by decide)) q15a q15c (g := (mkF m 35 #[.val (.ref a0_), .val (.ref y0), .val (.int 0), .unset, .unset] [(.ref y0), (.ref y0)])) rfl (by rw [hml]; rfl) (Steps.refl _) (argsL := [(.ref y0)]) (rest := []) (lenOf pd6 rfl) rfl (by show 2 * 0 + _ ≤ _; exact Nat.le_of_eq rfl) (hb hby d11_35) (fun _ _ => ⟨rfl, e13, (by decide : 0 + 0 ≤ _), (by decide : 0 + 0 ≤ _)⟩)
  dsimp only [Pt.U, Pt.locs, Pt.cells, Pt.slots] at X15 l15 y15 z15 st15 hQ15
  subst l15 y15 z15
  obtain ⟨rfl, Nq15, eq15⟩ := hQ15
  have N15 := Fr.app N0 Nq15
  refine Go.by st15 ?_
  show Go _ _ _ _ _ _ _ (T15.setTop (mkF m 38 _ [(.int 1)]))
  refine Go.st (t' := T15.setTop (mkF m 42 #[.val (.ref a0_), .val (.ref y0), .val (.int 0), .unset, .unset] [(.int 0)])) (fun target kt => ?_) ?_
  · refine XS.ifNo X15.here hx rfl (hb hby d11_38) rfl ((if0 _ _).trans (feq (by decide : ¬ ((1 : Int32) = (0 : Int32)))).1) ?_
    refine XS.iloadN X15.here hx rfl (hb hby d11_41) rfl ?_
    exact kt
  refine Go.ret X15 (v := some (.int 0)) (fun h => by rw [hret] at h; cases h) hlk (fun fs hr => retI X15 hx hret (hb hby d11_42) hr) ?_ (by decide) (by decide)
  show Q11_same_1_6 Z a0_ y0 pch wcs am km u0 h0 n0 _ T15.heap _
  rw [eq15]
  exact ⟨rfl, N15, rfl⟩
theorem d13_0 : decode jdk_29_method_65_code 0 = .ok (.iload_n 0, 1) := by decide +kernel
theorem d13_1 : decode jdk_29_method_65_code 1 = .ok (.iload_n 1, 1) := by decide +kernel
theorem d13_2 : decode jdk_29_method_65_code 2 = .ok (.if_icmp .lt 7, 3) := by decide +kernel
theorem d13_5 : decode jdk_29_method_65_code 5 = .ok (.iload_n 0, 1) := by decide +kernel
theorem d13_6 : decode jdk_29_method_65_code 6 = .ok (.goto 4, 3) := by decide +kernel
theorem d13_10 : decode jdk_29_method_65_code 10 = .ok (.ireturn, 1) := by decide +kernel
theorem ef13_2_0 (m : MethodId)  : entryFrame m #[(.int 2), (.int 0)] 2 = mkF m 0 #[.val (.int 2), .val (.int 0)] [] := by first | (simp [entryFrame, mkF, argsToLocals, Value.category]; done) | rfl
def Q13_2_0 (Z : State)  (h0 : Heap) (n0 : Nat) (v : Option Value) (h : Heap) (L : List Loc) : Prop := v = some (.int 2) ∧ Fr n0 L ∧ h = h0
theorem rm13_2_0 (l : Launch) (Z : State) (a0 : Array Value) (hw : ∀ d ∈ tables_1, d.before a0 Z = true) (ws : List Jvm.Cond)  (h0 : Heap) (n0 : Nat) (Z0 : n0 ≤ h0.size) (O0 : Old Z n0 h0) :
    Met l Z ws (⟨"java/lang/Math", "max", "(II)I"⟩ : MethodName) jdk_29_method_65_code 2 (some .int) (Rm 0 0 0 0) #[(.int 2), (.int 0)] h0 (Q13_2_0 Z  h0 n0) := by
  refine Met.enter (L0 := #[.val (.int 2), .val (.int 0)]) (Jvm.Free.JP.mathPlain rfl (by decide +kernel)) (fun m => ef13_2_0 m ) ?_
  intro p e s m below meth c s₁ hx hby hml hown hnm hret hlk hZ X0 e0
  have N0 := Fr.nil n0
  have K0 : Keep h0 h0 [] := Keep.refl h0 _
  refine Go.st (t' := s₁.setTop (mkF m 10 #[.val (.int 2), .val (.int 0)] [(.int 2)])) (fun target kt => ?_) ?_
  · refine XS.iloadN X0.here hx rfl (hb hby d13_0) rfl ?_
    refine XS.iloadN X0.here hx rfl (hb hby d13_1) rfl ?_
    refine XS.icmpNo X0.here hx rfl (hb hby d13_2) rfl (flt (by decide : ¬ ((2 : Int32) < (0 : Int32)))).1 ?_
    refine XS.iloadN X0.here hx rfl (hb hby d13_5) rfl ?_
    refine XS.goto X0.here hx rfl (pc0 := 6) (pc' := 10) rfl (hb hby d13_6) (by decide) (by decide) ?_
    exact kt
  refine Go.ret X0 (v := some (.int 2)) (fun h => by rw [hret] at h; cases h) hlk (fun fs hr => retI X0 hx hret (hb hby d13_10) hr) ?_ (by decide) (by decide)
  show Q13_2_0 Z  h0 n0 _ s₁.heap _
  rw [e0]
  exact ⟨rfl, N0, rfl⟩
theorem d13_9 : decode jdk_29_method_65_code 9 = .ok (.iload_n 1, 1) := by decide +kernel
theorem ef13_2_3 (m : MethodId)  : entryFrame m #[(.int 2), (.int 3)] 2 = mkF m 0 #[.val (.int 2), .val (.int 3)] [] := by first | (simp [entryFrame, mkF, argsToLocals, Value.category]; done) | rfl
def Q13_2_3 (Z : State)  (h0 : Heap) (n0 : Nat) (v : Option Value) (h : Heap) (L : List Loc) : Prop := v = some (.int 3) ∧ Fr n0 L ∧ h = h0
theorem rm13_2_3 (l : Launch) (Z : State) (a0 : Array Value) (hw : ∀ d ∈ tables_1, d.before a0 Z = true) (ws : List Jvm.Cond)  (h0 : Heap) (n0 : Nat) (Z0 : n0 ≤ h0.size) (O0 : Old Z n0 h0) :
    Met l Z ws (⟨"java/lang/Math", "max", "(II)I"⟩ : MethodName) jdk_29_method_65_code 2 (some .int) (Rm 0 0 0 0) #[(.int 2), (.int 3)] h0 (Q13_2_3 Z  h0 n0) := by
  refine Met.enter (L0 := #[.val (.int 2), .val (.int 3)]) (Jvm.Free.JP.mathPlain rfl (by decide +kernel)) (fun m => ef13_2_3 m ) ?_
  intro p e s m below meth c s₁ hx hby hml hown hnm hret hlk hZ X0 e0
  have N0 := Fr.nil n0
  have K0 : Keep h0 h0 [] := Keep.refl h0 _
  refine Go.st (t' := s₁.setTop (mkF m 10 #[.val (.int 2), .val (.int 3)] [(.int 3)])) (fun target kt => ?_) ?_
  · refine XS.iloadN X0.here hx rfl (hb hby d13_0) rfl ?_
    refine XS.iloadN X0.here hx rfl (hb hby d13_1) rfl ?_
    refine XS.icmpYes X0.here hx rfl (pc0 := 2) (pc' := 9) rfl (hb hby d13_2) rfl (tlt (by decide : (2 : Int32) < (3 : Int32))).1 (by decide) (by decide) ?_
    refine XS.iloadN X0.here hx rfl (hb hby d13_9) rfl ?_
    exact kt
  refine Go.ret X0 (v := some (.int 3)) (fun h => by rw [hret] at h; cases h) hlk (fun fs hr => retI X0 hx hret (hb hby d13_10) hr) ?_ (by decide) (by decide)
  show Q13_2_3 Z  h0 n0 _ s₁.heap _
  rw [e0]
  exact ⟨rfl, N0, rfl⟩
theorem d16_0 : decode jdk_29_method_69_code 0 = .ok (.iload_n 0, 1) := by decide +kernel
theorem d16_1 : decode jdk_29_method_69_code 1 = .ok (.iload_n 1, 1) := by decide +kernel
theorem d16_2 : decode jdk_29_method_69_code 2 = .ok (.if_icmp .gt 7, 3) := by decide +kernel
theorem d16_5 : decode jdk_29_method_69_code 5 = .ok (.iload_n 0, 1) := by decide +kernel
theorem d16_6 : decode jdk_29_method_69_code 6 = .ok (.goto 4, 3) := by decide +kernel
theorem d16_10 : decode jdk_29_method_69_code 10 = .ok (.ireturn, 1) := by decide +kernel
theorem ef16_0_4 (m : MethodId)  : entryFrame m #[(.int 0), (.int 4)] 2 = mkF m 0 #[.val (.int 0), .val (.int 4)] [] := by first | (simp [entryFrame, mkF, argsToLocals, Value.category]; done) | rfl
def Q16_0_4 (Z : State)  (h0 : Heap) (n0 : Nat) (v : Option Value) (h : Heap) (L : List Loc) : Prop := v = some (.int 0) ∧ Fr n0 L ∧ h = h0
theorem rm16_0_4 (l : Launch) (Z : State) (a0 : Array Value) (hw : ∀ d ∈ tables_1, d.before a0 Z = true) (ws : List Jvm.Cond)  (h0 : Heap) (n0 : Nat) (Z0 : n0 ≤ h0.size) (O0 : Old Z n0 h0) :
    Met l Z ws (⟨"java/lang/Math", "min", "(II)I"⟩ : MethodName) jdk_29_method_69_code 2 (some .int) (Rm 0 0 0 0) #[(.int 0), (.int 4)] h0 (Q16_0_4 Z  h0 n0) := by
  refine Met.enter (L0 := #[.val (.int 0), .val (.int 4)]) (Jvm.Free.JP.mathPlain rfl (by decide +kernel)) (fun m => ef16_0_4 m ) ?_
  intro p e s m below meth c s₁ hx hby hml hown hnm hret hlk hZ X0 e0
  have N0 := Fr.nil n0
  have K0 : Keep h0 h0 [] := Keep.refl h0 _
  refine Go.st (t' := s₁.setTop (mkF m 10 #[.val (.int 0), .val (.int 4)] [(.int 0)])) (fun target kt => ?_) ?_
  · refine XS.iloadN X0.here hx rfl (hb hby d16_0) rfl ?_
    refine XS.iloadN X0.here hx rfl (hb hby d16_1) rfl ?_
    refine XS.icmpNo X0.here hx rfl (hb hby d16_2) rfl (flt (by decide : ¬ ((4 : Int32) < (0 : Int32)))).2.2.1 ?_
    refine XS.iloadN X0.here hx rfl (hb hby d16_5) rfl ?_
    refine XS.goto X0.here hx rfl (pc0 := 6) (pc' := 10) rfl (hb hby d16_6) (by decide) (by decide) ?_
    exact kt
  refine Go.ret X0 (v := some (.int 0)) (fun h => by rw [hret] at h; cases h) hlk (fun fs hr => retI X0 hx hret (hb hby d16_10) hr) ?_ (by decide) (by decide)
  show Q16_0_4 Z  h0 n0 _ s₁.heap _
  rw [e0]
  exact ⟨rfl, N0, rfl⟩
theorem ef16_4_6 (m : MethodId)  : entryFrame m #[(.int 4), (.int 6)] 2 = mkF m 0 #[.val (.int 4), .val (.int 6)] [] := by first | (simp [entryFrame, mkF, argsToLocals, Value.category]; done) | rfl
def Q16_4_6 (Z : State)  (h0 : Heap) (n0 : Nat) (v : Option Value) (h : Heap) (L : List Loc) : Prop := v = some (.int 4) ∧ Fr n0 L ∧ h = h0
theorem rm16_4_6 (l : Launch) (Z : State) (a0 : Array Value) (hw : ∀ d ∈ tables_1, d.before a0 Z = true) (ws : List Jvm.Cond)  (h0 : Heap) (n0 : Nat) (Z0 : n0 ≤ h0.size) (O0 : Old Z n0 h0) :
    Met l Z ws (⟨"java/lang/Math", "min", "(II)I"⟩ : MethodName) jdk_29_method_69_code 2 (some .int) (Rm 0 0 0 0) #[(.int 4), (.int 6)] h0 (Q16_4_6 Z  h0 n0) := by
  refine Met.enter (L0 := #[.val (.int 4), .val (.int 6)]) (Jvm.Free.JP.mathPlain rfl (by decide +kernel)) (fun m => ef16_4_6 m ) ?_
  intro p e s m below meth c s₁ hx hby hml hown hnm hret hlk hZ X0 e0
  have N0 := Fr.nil n0
  have K0 : Keep h0 h0 [] := Keep.refl h0 _
  refine Go.st (t' := s₁.setTop (mkF m 10 #[.val (.int 4), .val (.int 6)] [(.int 4)])) (fun target kt => ?_) ?_
  · refine XS.iloadN X0.here hx rfl (hb hby d16_0) rfl ?_
    refine XS.iloadN X0.here hx rfl (hb hby d16_1) rfl ?_
    refine XS.icmpNo X0.here hx rfl (hb hby d16_2) rfl (flt (by decide : ¬ ((6 : Int32) < (4 : Int32)))).2.2.1 ?_
    refine XS.iloadN X0.here hx rfl (hb hby d16_5) rfl ?_
    refine XS.goto X0.here hx rfl (pc0 := 6) (pc' := 10) rfl (hb hby d16_6) (by decide) (by decide) ?_
    exact kt
  refine Go.ret X0 (v := some (.int 4)) (fun h => by rw [hret] at h; cases h) hlk (fun fs hr => retI X0 hx hret (hb hby d16_10) hr) ?_ (by decide) (by decide)
  show Q16_4_6 Z  h0 n0 _ s₁.heap _
  rw [e0]
  exact ⟨rfl, N0, rfl⟩
theorem d15_0 : decode jdk_65_method_120_code 0 = .ok (.aload_n 2, 1) := by decide +kernel
theorem tw91 : (Jvm.Cond.classLink "java/util/Arrays" (110 : Nat) "[Ljava/lang/Object;") ∈ tables_1 := List.mem_of_getElem? (i := 91) rfl
theorem d15_1 : decode jdk_65_method_120_code 1 = .ok (.ldc 110, 2) := by decide +kernel
theorem d15_3 : decode jdk_65_method_120_code 3 = .ok (.if_acmp .ne 10, 3) := by decide +kernel
theorem d15_6 : decode jdk_65_method_120_code 6 = .ok (.iload_n 1, 1) := by decide +kernel
theorem d15_7 : decode jdk_65_method_120_code 7 = .ok (.anewarray 2, 3) := by decide +kernel
theorem tw92 : (Jvm.Cond.classLink "java/util/Arrays" (2 : Nat) "java/lang/Object") ∈ tables_1 := List.mem_of_getElem? (i := 92) rfl
theorem tw93 : (Jvm.Cond.arrayOver (Jvm.ClassFile.FieldType.object "java/lang/Object")) ∈ tables_1 := List.mem_of_getElem? (i := 93) rfl
theorem d15_10 : decode jdk_65_method_120_code 10 = .ok (.goto 14, 3) := by decide +kernel
theorem d15_24 : decode jdk_65_method_120_code 24 = .ok (.astore_n 3, 1) := by decide +kernel
theorem d15_25 : decode jdk_65_method_120_code 25 = .ok (.aload_n 0, 1) := by decide +kernel
theorem d15_26 : decode jdk_65_method_120_code 26 = .ok (.iconst 0, 1) := by decide +kernel
theorem d15_27 : decode jdk_65_method_120_code 27 = .ok (.aload_n 3, 1) := by decide +kernel
theorem d15_28 : decode jdk_65_method_120_code 28 = .ok (.iconst 0, 1) := by decide +kernel
theorem d15_29 : decode jdk_65_method_120_code 29 = .ok (.aload_n 0, 1) := by decide +kernel
theorem d15_30 : decode jdk_65_method_120_code 30 = .ok (.arraylength, 1) := by decide +kernel
theorem d15_31 : decode jdk_65_method_120_code 31 = .ok (.iload_n 1, 1) := by decide +kernel
theorem d15_32 : decode jdk_65_method_120_code 32 = .ok (.invokestatic 304, 3) := by decide +kernel
theorem tw94 : (Jvm.Cond.methodLink "java/util/Arrays" (304 : Nat) ({ cls := "java/lang/Math", name := "min", desc := "(II)I" } : Jvm.MethodName)) ∈ tables_1 := List.mem_of_getElem? (i := 94) rfl
theorem tw96 : (Jvm.Cond.code ({ cls := "java/lang/Math", name := "min", desc := "(II)I" } : Jvm.MethodName) jdk_29_method_69_code (2 : Nat) (Option.some Jvm.ClassFile.FieldType.int)) ∈ tables_1 := List.mem_of_getElem? (i := 96) rfl
theorem tw76 : (Jvm.Cond.initialized "java/lang/Math") ∈ tables_1 := List.mem_of_getElem? (i := 76) rfl
theorem pd7 : parseMethodDescriptor "(II)I" = some ⟨[.int, .int], some .int⟩ := by decide +kernel
theorem tw95 : (Jvm.Cond.static ({ cls := "java/lang/Math", name := "min", desc := "(II)I" } : Jvm.MethodName)) ∈ tables_1 := List.mem_of_getElem? (i := 95) rfl
theorem d15_35 : decode jdk_65_method_120_code 35 = .ok (.invokestatic 150, 3) := by decide +kernel
theorem tw97 : (Jvm.Cond.methodLink "java/util/Arrays" (150 : Nat) ({ cls := "java/lang/System", name := "arraycopy", desc := "(Ljava/lang/Object;ILjava/lang/Object;II)V" } : Jvm.MethodName)) ∈ tables_1 := List.mem_of_getElem? (i := 97) rfl
theorem tw100 : (Jvm.Cond.native ({ cls := "java/lang/System", name := "arraycopy", desc := "(Ljava/lang/Object;ILjava/lang/Object;II)V" } : Jvm.MethodName)) ∈ tables_1 := List.mem_of_getElem? (i := 100) rfl
theorem tw98 : (Jvm.Cond.static ({ cls := "java/lang/System", name := "arraycopy", desc := "(Ljava/lang/Object;ILjava/lang/Object;II)V" } : Jvm.MethodName)) ∈ tables_1 := List.mem_of_getElem? (i := 98) rfl
theorem tw99 : (Jvm.Cond.initialized "java/lang/System") ∈ tables_1 := List.mem_of_getElem? (i := 99) rfl
theorem d15_38 : decode jdk_65_method_120_code 38 = .ok (.aload_n 3, 1) := by decide +kernel
theorem d15_39 : decode jdk_65_method_120_code 39 = .ok (.areturn, 1) := by decide +kernel
theorem ef15_0 (m : MethodId) (x0 : Addr) (x2 : Addr) : entryFrame m #[(.ref x0), (.int 4), (.ref x2)] 4 = mkF m 0 #[.val (.ref x0), .val (.int 4), .val (.ref x2), .unset] [] := by first | (simp [entryFrame, mkF, argsToLocals, Value.category]; done) | rfl
def Q15_0 (Z : State) (wn : Addr) (wm : Addr) (kn : ClassId) (h0 : Heap) (n0 : Nat) (v : Option Value) (h : Heap) (L : List Loc) : Prop := ∃ (b : Addr) (kb : ClassId), v = some (.ref b) ∧ Fr n0 L ∧ Keep h0 h [] ∧ h0.size ≤ b ∧ Ovr Z kb sq1 ∧ Exa Z h b sq3 ∧ Arv Z h b kb (.object sq1) (4 : Int32) [.null, .null, .null, .null] .null
theorem pn191 : plainName "java/util/Arrays" = true := by first | (simp [plainName, overriddenIn]; done) | decide +kernel
theorem rm15_0 (l : Launch) (Z : State) (a0 : Array Value) (hw : ∀ d ∈ tables_1, d.before a0 Z = true) (ws : List Jvm.Cond) (wn : Addr) (wm : Addr) (kn : ClassId) (h0 : Heap) (n0 : Nat) (Z0 : n0 ≤ h0.size) (O0 : Old Z n0 h0) (M_AO : MirM Z sq3 wm) (E_wn : Exa Z Z.heap wn sq3) (V_wn : Arv Z Z.heap wn kn (.object sq1) (0 : Int32) [] .null) :
    Met l Z ws (⟨"java/util/Arrays", "copyOf", "([Ljava/lang/Object;ILjava/lang/Class;)[Ljava/lang/Object;"⟩ : MethodName) jdk_65_method_120_code 4 (some (.array (.object sq1))) (Rm 1 1 4 18) #[(.ref wn), (.int 4), (.ref wm)] h0 (Q15_0 Z wn wm kn h0 n0) := by
  refine Met.enter (L0 := #[.val (.ref wn), .val (.int 4), .val (.ref wm), .unset]) (plainFor_of_name pn191) (fun m => ef15_0 m wn wm) ?_
  intro p e s m below meth c s₁ hx hby hml hown hnm hret hlk hZ X0 e0
  have N0 := Fr.nil n0
  have K0 : Keep h0 h0 [] := Keep.refl h0 _
  refine Go.st (t' := s₁.setTop (mkF m 1 #[.val (.ref wn), .val (.int 4), .val (.ref wm), .unset] [(.ref wm)])) (fun target kt => ?_) ?_
  · refine XS.aloadN X0.here hx rfl (hb hby d15_0) rfl rfl ?_
    exact kt
  obtain ⟨T10, X10, e10, st10⟩ := own_ldcM X0 hx hZ hown (hw _ tw91) e0 M_AO (g := (mkF m 1 #[.val (.ref wn), .val (.int 4), .val (.ref wm), .unset] [(.ref wm)])) rfl (hb hby d15_1)
  refine Go.st st10 ?_
  show Go _ _ _ _ _ _ _ (T10.setTop (mkF m 3 _ [(.ref wm), (.ref wm)]))
  refine Go.st (t' := T10.setTop (mkF m 7 #[.val (.ref wn), .val (.int 4), .val (.ref wm), .unset] [(.int 4)])) (fun target kt => ?_) ?_
  · refine Jvm.RoadKit.acmp (g := (mkF m 3 #[.val (.ref wn), .val (.int 4), .val (.ref wm), .unset] [(.ref wm), (.ref wm)])) X10 hx rfl rfl rfl (pc0 := 3) (pc' := 6) (same := true) rfl (hb hby d15_3) rfl (decide_eq_true rfl) (by decide) (by decide) ?_
    refine XS.iloadN X10.here hx rfl (hb hby d15_6) rfl ?_
    exact kt
  obtain ⟨T11, h11, k11, X11, e11, E11, A11, B11, O'11, st11⟩ := newRE X10 hx hZ hown (hw _ tw92) (hw _ tw93) e10 (g := (mkF m 7 #[.val (.ref wn), .val (.int 4), .val (.ref wm), .unset] [(.int 4)])) rfl (hb hby d15_7) rfl (by decide) (cap := 4) (by decide) (by decide) (by decide) (by decide) (ad := sq3) (by decide)
  obtain ⟨b11, g11⟩ : ∃ z, z = h0.size := ⟨_, rfl⟩
  rw [← g11] at A11 B11 st11
  have lb12 : h0.size ≤ b11 := Nat.le_of_eq g11.symm
  have sz13 : h0.size ≤ b11 := Nat.le_trans K0.1 lb12
  have g14 : n0 ≤ b11 := Nat.le_trans Z0 sz13
  have K15 := K0.ext E11
  have O16 := O0.ext E11
  have V17 : Arv Z h11 b11 k11 (.object sq1) (4 : Int32) [.null, .null, .null, .null] .null := (Arv.new A11 (by decide)).pad (pad_rep [] .null 4)
  refine Go.st st11 ?_
  show Go _ _ _ _ _ _ _ (T11.setTop (mkF m 10 _ [(.ref b11)]))
  obtain ⟨cl18, Ar18, -, S18, M18, -, -⟩ := id (V_wn.ext O16.2)
  refine Go.st (t' := T11.setTop (mkF m 32 #[.val (.ref wn), .val (.int 4), .val (.ref wm), .val (.ref b11)] [(.int 4), (.int 0), (.int 0), (.ref b11), (.int 0), (.ref wn)])) (fun target kt => ?_) ?_
  · refine XS.goto X11.here hx rfl (pc0 := 10) (pc' := 24) rfl (hb hby d15_10) (by decide) (by decide) ?_
    refine XS.astoreN X11.here hx rfl (hb hby d15_24) rfl rfl (l' := #[.val (.ref wn), .val (.int 4), .val (.ref wm), .val (.ref b11)]) rfl ?_
    refine XS.aloadN X11.here hx rfl (hb hby d15_25) rfl rfl ?_
    refine XS.iconst X11.here hx rfl (hb hby d15_26) ?_
    refine XS.aloadN X11.here hx rfl (hb hby d15_27) rfl rfl ?_
    refine XS.iconst X11.here hx rfl (hb hby d15_28) ?_
    refine XS.aloadN X11.here hx rfl (hb hby d15_29) rfl rfl ?_
    refine X11.arraylength hx (by rw [e11]; exact Ar18.1) (State.isArrayOf_alike hZ.alike Ar18.2.1) (g := (mkF m 30 #[.val (.ref wn), .val (.int 4), .val (.ref wm), .val (.ref b11)] [(.ref wn), (.int 0), (.ref b11), (.int 0), (.ref wn)])) rfl rfl (hb hby d15_30) _ ?_
    rw [len_of S18 M18]
    refine XS.iloadN X11.here hx rfl (hb hby d15_31) rfl ?_
    exact kt
  obtain ⟨_, _, ⟨T19, L19, k19, n19⟩, -, X19, ⟨Lc19, hQ19, l19, y19, z19⟩, st19⟩ := Jvm.LawKit.callS X11 hx (y := (⟨"java/lang/Math", "min", "(II)I"⟩ : MethodName)) hown (mvT hZ (hw _ tw94)) (mvT hZ (hw _ tw95)) (mvT hZ (hw _ tw76)) (mvT hZ (hw _ tw96)) (by decide) (backOf (W := 4) (rm16_0_4 l Z a0 hw []  h11 n0 (Nat.le_trans Z0 K15.1) O16  ) hZ (hw _ tw96) (hw _ tw76) (by decide) (by decide)) (g := (mkF m 32 #[.val (.ref wn), .val (.int 4), .val (.ref wm), .val (.ref b11)] [(.int 4), (.int 0), (.int 0), (.ref b11), (.int 0), (.ref wn)])) rfl (by rw [hml]; rfl) (argsL := [(.int 0), (.int 4)]) (rest := [(.int 0), (.ref b11), (.int 0), (.ref wn)]) (lenOf pd7 rfl) rfl (by show 2 * 0 + _ ≤ _; exact Nat.le_of_eq rfl) (hb hby d15_32) (fun _ _ => ⟨rfl, e11, (by decide : 1 + 0 ≤ _), (by decide : 4 + 0 ≤ _)⟩)
  dsimp only [Pt.U, Pt.locs, Pt.cells, Pt.slots] at X19 l19 y19 z19 st19 hQ19
  subst l19 y19 z19
  obtain ⟨rfl, Nq19, eq19⟩ := hQ19
  have N19 := Fr.app N0 Nq19
  refine Go.st st19 ?_
  show Go _ _ _ _ _ _ _ (T19.setTop (mkF m 35 _ [(.int 0), (.int 0), (.ref b11), (.int 0), (.ref wn)]))
  obtain ⟨cl20, Ar20, q20, -, -, -, -⟩ := id V17
  have sl20 : StoL Z h11 b11 [] := trivial
  obtain ⟨T20, h20, L20, X20, e20, N20, Kq20, V20, st20⟩ := cpA X19 hx hZ hown (hw _ tw97) (hw _ tw100) (hw _ tw98) (hw _ tw99) eq19 (V_wn.ext O16.2) V17 (Or.inr ⟨rfl, rfl, sl20⟩) (sp := (0 : Int32)) (dp := (0 : Int32)) (nn := (0 : Int32)) (by decide) (by decide) (by decide) (by decide) (by decide) rfl (by decide) N19 g14 (g := (mkF m 35 #[.val (.ref wn), .val (.int 4), .val (.ref wm), .val (.ref b11)] [(.int 0), (.int 0), (.ref b11), (.int 0), (.ref wn)])) rfl (by rw [hml]; rfl) rfl (hb hby d15_35) (by decide) (W := 0) (by show 2 * 0 + _ ≤ _; exact Nat.le_of_eq rfl) (by decide)
  have K21 := K15.trans Kq20 (allS (Or.inr sz13) all0)
  have O22 := O16.keep Kq20 (allS g14 all0)
  have V23 : Arv Z h20 b11 k11 (.object sq1) (4 : Int32) [.null, .null, .null, .null] .null := V20
  refine Go.st st20 ?_
  show Go _ _ _ _ _ _ _ (T20.setTop (mkF m 38 _ []))
  refine Go.st (t' := T20.setTop (mkF m 39 #[.val (.ref wn), .val (.int 4), .val (.ref wm), .val (.ref b11)] [(.ref b11)])) (fun target kt => ?_) ?_
  · refine XS.aloadN X20.here hx rfl (hb hby d15_38) rfl rfl ?_
    exact kt
  have c24 := B11.keep Kq20
  refine Go.ret X20 (v := some (.ref b11)) (fun h => by rw [hret] at h; cases h) hlk (fun fs hr => retR X20 hx hret rfl rfl (hb hby d15_39) hr) ?_ (by decide) (by decide)
  show Q15_0 Z wn wm kn h0 n0 _ T20.heap _
  rw [e20]
  exact ⟨b11, k11, rfl, N20, K21, sz13, (by first | assumption | decide | omega), c24, V23⟩
theorem d14_0 : decode jdk_65_method_119_code 0 = .ok (.aload_n 0, 1) := by decide +kernel
theorem d14_1 : decode jdk_65_method_119_code 1 = .ok (.iload_n 1, 1) := by decide +kernel
theorem d14_2 : decode jdk_65_method_119_code 2 = .ok (.aload_n 0, 1) := by decide +kernel
theorem d14_3 : decode jdk_65_method_119_code 3 = .ok (.invokevirtual 86, 3) := by decide +kernel
theorem tw82 : (Jvm.Cond.methodLink "java/util/Arrays" (86 : Nat) ({ cls := "java/lang/Object", name := "getClass", desc := "()Ljava/lang/Class;" } : Jvm.MethodName)) ∈ tables_1 := List.mem_of_getElem? (i := 82) rfl
theorem tw83 : (Jvm.Cond.declares ({ cls := "java/lang/Object", name := "getClass", desc := "()Ljava/lang/Class;" } : Jvm.MethodName)) ∈ tables_1 := List.mem_of_getElem? (i := 83) rfl
theorem tw86 : (Jvm.Cond.native ({ cls := "java/lang/Object", name := "getClass", desc := "()Ljava/lang/Class;" } : Jvm.MethodName)) ∈ tables_1 := List.mem_of_getElem? (i := 86) rfl
theorem d14_6 : decode jdk_65_method_119_code 6 = .ok (.invokestatic 300, 3) := by decide +kernel
theorem tw88 : (Jvm.Cond.methodLink "java/util/Arrays" (300 : Nat) ({ cls := "java/util/Arrays", name := "copyOf", desc := "([Ljava/lang/Object;ILjava/lang/Class;)[Ljava/lang/Object;" } : Jvm.MethodName)) ∈ tables_1 := List.mem_of_getElem? (i := 88) rfl
theorem tw90 : (Jvm.Cond.code ({ cls := "java/util/Arrays", name := "copyOf", desc := "([Ljava/lang/Object;ILjava/lang/Class;)[Ljava/lang/Object;" } : Jvm.MethodName) jdk_65_method_120_code (4 : Nat) (Option.some (Jvm.ClassFile.FieldType.array (Jvm.ClassFile.FieldType.object "java/lang/Object")))) ∈ tables_1 := List.mem_of_getElem? (i := 90) rfl
theorem tw80 : (Jvm.Cond.initialized "java/util/Arrays") ∈ tables_1 := List.mem_of_getElem? (i := 80) rfl
theorem pd8 : parseMethodDescriptor "([Ljava/lang/Object;ILjava/lang/Class;)[Ljava/lang/Object;" = some ⟨[(.array (.object "java/lang/Object")), .int, (.object "java/lang/Class")], some (.array (.object "java/lang/Object"))⟩ := by decide +kernel
theorem tw89 : (Jvm.Cond.static ({ cls := "java/util/Arrays", name := "copyOf", desc := "([Ljava/lang/Object;ILjava/lang/Class;)[Ljava/lang/Object;" } : Jvm.MethodName)) ∈ tables_1 := List.mem_of_getElem? (i := 89) rfl
theorem d14_9 : decode jdk_65_method_119_code 9 = .ok (.areturn, 1) := by decide +kernel
theorem ef14_0 (m : MethodId) (x0 : Addr) : entryFrame m #[(.ref x0), (.int 4)] 2 = mkF m 0 #[.val (.ref x0), .val (.int 4)] [] := by first | (simp [entryFrame, mkF, argsToLocals, Value.category]; done) | rfl
def Q14_0 (Z : State) (wn : Addr) (wm : Addr) (kn : ClassId) (h0 : Heap) (n0 : Nat) (v : Option Value) (h : Heap) (L : List Loc) : Prop := ∃ (b : Addr) (kb : ClassId), v = some (.ref b) ∧ Fr n0 L ∧ Keep h0 h [] ∧ h0.size ≤ b ∧ Ovr Z kb sq1 ∧ Exa Z h b sq3 ∧ Arv Z h b kb (.object sq1) (4 : Int32) [.null, .null, .null, .null] .null
theorem rm14_0 (l : Launch) (Z : State) (a0 : Array Value) (hw : ∀ d ∈ tables_1, d.before a0 Z = true) (ws : List Jvm.Cond) (wn : Addr) (wm : Addr) (kn : ClassId) (h0 : Heap) (n0 : Nat) (Z0 : n0 ≤ h0.size) (O0 : Old Z n0 h0) (M_AO : MirM Z sq3 wm) (E_wn : Exa Z Z.heap wn sq3) (V_wn : Arv Z Z.heap wn kn (.object sq1) (0 : Int32) [] .null) :
    Met l Z ws (⟨"java/util/Arrays", "copyOf", "([Ljava/lang/Object;I)[Ljava/lang/Object;"⟩ : MethodName) jdk_65_method_119_code 2 (some (.array (.object sq1))) (Rm 2 1 4 33) #[(.ref wn), (.int 4)] h0 (Q14_0 Z wn wm kn h0 n0) := by
  refine Met.enter (L0 := #[.val (.ref wn), .val (.int 4)]) (plainFor_of_name pn191) (fun m => ef14_0 m wn) ?_
  intro p e s m below meth c s₁ hx hby hml hown hnm hret hlk hZ X0 e0
  have N0 := Fr.nil n0
  have K0 : Keep h0 h0 [] := Keep.refl h0 _
  refine Go.st (t' := s₁.setTop (mkF m 3 #[.val (.ref wn), .val (.int 4)] [(.ref wn), (.int 4), (.ref wn)])) (fun target kt => ?_) ?_
  · refine XS.aloadN X0.here hx rfl (hb hby d14_0) rfl rfl ?_
    refine XS.iloadN X0.here hx rfl (hb hby d14_1) rfl ?_
    refine XS.aloadN X0.here hx rfl (hb hby d14_2) rfl rfl ?_
    exact kt
  obtain ⟨T10, X10, e10, st10⟩ := own_gcls X0 hx hZ hown (hw _ tw82) (hw _ tw83) (hw _ tw85) (hw _ tw84) (hw _ tw86) e0 (E_wn.ext O0.2) M_AO (g := (mkF m 3 #[.val (.ref wn), .val (.int 4)] [(.ref wn), (.int 4), (.ref wn)])) rfl (by rw [hml]; rfl) rfl (hb hby d14_3) (by decide) (W := 2) (by show 2 * 0 + _ ≤ _; exact Nat.le_of_eq rfl) (by decide)
  refine Go.st st10 ?_
  show Go _ _ _ _ _ _ _ (T10.setTop (mkF m 6 _ [(.ref wm), (.int 4), (.ref wn)]))
  obtain ⟨_, _, ⟨T11, L11, k11, n11⟩, -, X11, ⟨Lc11, hQ11, l11, y11, z11⟩, st11⟩ := Jvm.LawKit.callS X10 hx (y := (⟨"java/util/Arrays", "copyOf", "([Ljava/lang/Object;ILjava/lang/Class;)[Ljava/lang/Object;"⟩ : MethodName)) hown (mvT hZ (hw _ tw88)) (mvT hZ (hw _ tw89)) (mvT hZ (hw _ tw80)) (mvT hZ (hw _ tw90)) (by decide) (backOf (W := 0) (rm15_0 l Z a0 hw [] wn wm kn h0 n0 (Nat.le_trans Z0 K0.1) O0 M_AO E_wn V_wn ) hZ (hw _ tw90) (hw _ tw80) (by decide) (by decide)) (g := (mkF m 6 #[.val (.ref wn), .val (.int 4)] [(.ref wm), (.int 4), (.ref wn)])) rfl (by rw [hml]; rfl) (argsL := [(.ref wn), (.int 4), (.ref wm)]) (rest := []) (lenOf pd8 rfl) rfl (by show 2 * 0 + _ ≤ _; exact Nat.le_of_eq rfl) (hb hby d14_6) (fun _ _ => ⟨rfl, e10, (by decide : 0 + 1 ≤ _), (by decide : 0 + 4 ≤ _)⟩)
  dsimp only [Pt.U, Pt.locs, Pt.cells, Pt.slots] at X11 l11 y11 z11 st11 hQ11
  subst l11 y11 z11
  obtain ⟨b12, k13, rfl, Nq11, Kq11, q14, q15, q16, q17⟩ := hQ11
  have N11 := Fr.app N0 Nq11
  have sz18 : h0.size ≤ b12 := Nat.le_trans K0.1 q14
  have g19 : n0 ≤ b12 := Nat.le_trans Z0 sz18
  have K20 := K0.trans Kq11 all0
  have O21 := O0.keep Kq11 all0
  refine Go.st st11 ?_
  show Go _ _ _ _ _ _ _ (T11.setTop (mkF m 9 _ [(.ref b12)]))
  refine Go.ret X11 (v := some (.ref b12)) (fun h => by rw [hret] at h; cases h) hlk (fun fs hr => retR X11 hx hret rfl rfl (hb hby d14_9) hr) ?_ (by decide) (by decide)
  show Q14_0 Z wn wm kn h0 n0 _ T11.heap _
  exact ⟨b12, k13, rfl, N11, K20, sz18, (by first | assumption | decide | omega), q16, q17⟩
theorem d12_0 : decode prog_14_method_12_code 0 = .ok (.iconst 2, 1) := by decide +kernel
theorem d12_1 : decode prog_14_method_12_code 1 = .ok (.aload_n 0, 1) := by decide +kernel
theorem d12_2 : decode prog_14_method_12_code 2 = .ok (.getfield 16, 3) := by decide +kernel
theorem d12_5 : decode prog_14_method_12_code 5 = .ok (.aload_n 0, 1) := by decide +kernel
theorem d12_6 : decode prog_14_method_12_code 6 = .ok (.getfield 16, 3) := by decide +kernel
theorem d12_9 : decode prog_14_method_12_code 9 = .ok (.iconst 1, 1) := by decide +kernel
theorem d12_10 : decode prog_14_method_12_code 10 = .ok (.ishr, 1) := by decide +kernel
theorem d12_11 : decode prog_14_method_12_code 11 = .ok (.iadd, 1) := by decide +kernel
theorem d12_12 : decode prog_14_method_12_code 12 = .ok (.invokestatic 85, 3) := by decide +kernel
theorem tw74 : (Jvm.Cond.methodLink "com/example/graphweave/graphweave/json/JsonObject" (85 : Nat) ({ cls := "java/lang/Math", name := "max", desc := "(II)I" } : Jvm.MethodName)) ∈ tables_1 := List.mem_of_getElem? (i := 74) rfl
theorem tw77 : (Jvm.Cond.code ({ cls := "java/lang/Math", name := "max", desc := "(II)I" } : Jvm.MethodName) jdk_29_method_65_code (2 : Nat) (Option.some Jvm.ClassFile.FieldType.int)) ∈ tables_1 := List.mem_of_getElem? (i := 77) rfl
theorem tw75 : (Jvm.Cond.static ({ cls := "java/lang/Math", name := "max", desc := "(II)I" } : Jvm.MethodName)) ∈ tables_1 := List.mem_of_getElem? (i := 75) rfl
theorem d12_15 : decode prog_14_method_12_code 15 = .ok (.istore_n 1, 1) := by decide +kernel
theorem d12_16 : decode prog_14_method_12_code 16 = .ok (.aload_n 0, 1) := by decide +kernel
theorem d12_17 : decode prog_14_method_12_code 17 = .ok (.aload_n 0, 1) := by decide +kernel
theorem d12_18 : decode prog_14_method_12_code 18 = .ok (.getfield 13, 3) := by decide +kernel
theorem d12_21 : decode prog_14_method_12_code 21 = .ok (.iconst 2, 1) := by decide +kernel
theorem d12_22 : decode prog_14_method_12_code 22 = .ok (.iload_n 1, 1) := by decide +kernel
theorem d12_23 : decode prog_14_method_12_code 23 = .ok (.imul, 1) := by decide +kernel
theorem d12_24 : decode prog_14_method_12_code 24 = .ok (.invokestatic 91, 3) := by decide +kernel
theorem tw78 : (Jvm.Cond.methodLink "com/example/graphweave/graphweave/json/JsonObject" (91 : Nat) ({ cls := "java/util/Arrays", name := "copyOf", desc := "([Ljava/lang/Object;I)[Ljava/lang/Object;" } : Jvm.MethodName)) ∈ tables_1 := List.mem_of_getElem? (i := 78) rfl
theorem tw81 : (Jvm.Cond.code ({ cls := "java/util/Arrays", name := "copyOf", desc := "([Ljava/lang/Object;I)[Ljava/lang/Object;" } : Jvm.MethodName) jdk_65_method_119_code (2 : Nat) (Option.some (Jvm.ClassFile.FieldType.array (Jvm.ClassFile.FieldType.object "java/lang/Object")))) ∈ tables_1 := List.mem_of_getElem? (i := 81) rfl
theorem pd9 : parseMethodDescriptor "([Ljava/lang/Object;I)[Ljava/lang/Object;" = some ⟨[(.array (.object "java/lang/Object")), .int], some (.array (.object "java/lang/Object"))⟩ := by decide +kernel
theorem tw79 : (Jvm.Cond.static ({ cls := "java/util/Arrays", name := "copyOf", desc := "([Ljava/lang/Object;I)[Ljava/lang/Object;" } : Jvm.MethodName)) ∈ tables_1 := List.mem_of_getElem? (i := 79) rfl
theorem d12_27 : decode prog_14_method_12_code 27 = .ok (.putfield 13, 3) := by decide +kernel
theorem d12_30 : decode prog_14_method_12_code 30 = .ok (.aload_n 0, 1) := by decide +kernel
theorem d12_31 : decode prog_14_method_12_code 31 = .ok (.getfield 38, 3) := by decide +kernel
theorem d12_34 : decode prog_14_method_12_code 34 = .ok (.ifnull 7, 3) := by decide +kernel
theorem d12_41 : decode prog_14_method_12_code 41 = .ok (.return_, 1) := by decide +kernel
theorem ef12_0 (m : MethodId) (x0 : Addr) : entryFrame m #[(.ref x0)] 2 = mkF m 0 #[.val (.ref x0), .unset] [] := by first | (simp [entryFrame, mkF, argsToLocals, Value.category]; done) | rfl
def Q12_0 (Z : State) (a0_ : Addr) (wm : Addr) (wn : Addr) (kn : ClassId) (pch : Int32) (h0 : Heap) (n0 : Nat) (v : Option Value) (h : Heap) (L : List Loc) : Prop := ∃ (b : Addr) (kb : ClassId), v = none ∧ Fr n0 L ∧ Keep h0 h [a0_] ∧ h0.size ≤ b ∧ Ovr Z kb sq1 ∧ Exa Z h a0_ sq0 ∧ Fld Z h a0_ sq0 "members" sq3 (.ref b) ∧ Fld Z h a0_ sq0 "index" "[I" .null ∧ Fld Z h a0_ sq0 "size" "I" (.int 0) ∧ Fld Z h a0_ sq0 "changes" "I" (.int pch) ∧ Exa Z h b sq3 ∧ Arv Z h b kb (.object sq1) (4 : Int32) [.null, .null, .null, .null] .null
theorem rm12_0 (l : Launch) (Z : State) (a0 : Array Value) (hw : ∀ d ∈ tables_1, d.before a0 Z = true) (ws : List Jvm.Cond) (a0_ : Addr) (wm : Addr) (wn : Addr) (kn : ClassId) (pch : Int32) (h0 : Heap) (n0 : Nat) (Z0 : n0 ≤ h0.size) (O0 : Old Z n0 h0) (M_AO : MirM Z sq3 wm) (E_wn : Exa Z Z.heap wn sq3) (V_wn : Arv Z Z.heap wn kn (.object sq1) (0 : Int32) [] .null) (E0 : Exa Z h0 a0_ sq0) (F_m : Fld Z h0 a0_ sq0 "members" sq3 (.ref wn)) (F_i : Fld Z h0 a0_ sq0 "index" "[I" .null) (F_s : Fld Z h0 a0_ sq0 "size" "I" (.int 0)) (F_c : Fld Z h0 a0_ sq0 "changes" "I" (.int pch)) (g0 : n0 ≤ a0_) :
    Met l Z ws (⟨sq0, "grow", "()V"⟩ : MethodName) prog_14_method_12_code 2 none (Rm 3 1 4 47) #[(.ref a0_)] h0 (Q12_0 Z a0_ wm wn kn pch h0 n0) := by
  refine Met.enter (L0 := #[.val (.ref a0_), .unset]) (plainFor_of_name pn10) (fun m => ef12_0 m a0_) ?_
  intro p e s m below meth c s₁ hx hby hml hown hnm hret hlk hZ X0 e0
  have N0 := Fr.nil n0
  have K0 : Keep h0 h0 [a0_] := Keep.refl h0 _
  refine Go.st (t' := s₁.setTop (mkF m 2 #[.val (.ref a0_), .unset] [(.ref a0_), (.int 2)])) (fun target kt => ?_) ?_
  · refine XS.iconst X0.here hx rfl (hb hby d12_0) ?_
    refine XS.aloadN X0.here hx rfl (hb hby d12_1) rfl rfl ?_
    exact kt
  obtain ⟨T10, X10, e10, st10⟩ := getF X0 hx hZ hown (host := "") (Or.inl (hw _ tw68)) Via.refl e0 F_s (g := (mkF m 2 #[.val (.ref a0_), .unset] [(.ref a0_), (.int 2)])) rfl rfl (hb hby d12_2)
  refine Go.st st10 ?_
  show Go _ _ _ _ _ _ _ (T10.setTop (mkF m 5 _ [(.int 0), (.int 2)]))
  refine Go.st (t' := T10.setTop (mkF m 6 #[.val (.ref a0_), .unset] [(.ref a0_), (.int 0), (.int 2)])) (fun target kt => ?_) ?_
  · refine XS.aloadN X10.here hx rfl (hb hby d12_5) rfl rfl ?_
    exact kt
  obtain ⟨T11, X11, e11, st11⟩ := getF X10 hx hZ hown (host := "") (Or.inl (hw _ tw68)) Via.refl e10 F_s (g := (mkF m 6 #[.val (.ref a0_), .unset] [(.ref a0_), (.int 0), (.int 2)])) rfl rfl (hb hby d12_6)
  refine Go.st st11 ?_
  show Go _ _ _ _ _ _ _ (T11.setTop (mkF m 9 _ [(.int 0), (.int 0), (.int 2)]))
  refine Go.st (t' := T11.setTop (mkF m 12 #[.val (.ref a0_), .unset] [(.int 0), (.int 2)])) (fun target kt => ?_) ?_
  · refine XS.iconst X11.here hx rfl (hb hby d12_9) ?_
    refine XS.ishr X11.here hx rfl (hb hby d12_10) rfl ?_
    refine XS.iadd X11.here hx rfl (hb hby d12_11) rfl ?_
    exact kt
  obtain ⟨_, _, ⟨T12, L12, k12, n12⟩, -, X12, ⟨Lc12, hQ12, l12, y12, z12⟩, st12⟩ := Jvm.LawKit.callS X11 hx (y := (⟨"java/lang/Math", "max", "(II)I"⟩ : MethodName)) hown (mvT hZ (hw _ tw74)) (mvT hZ (hw _ tw75)) (mvT hZ (hw _ tw76)) (mvT hZ (hw _ tw77)) (by decide) (backOf (W := 0) (rm13_2_0 l Z a0 hw []  h0 n0 (Nat.le_trans Z0 K0.1) O0  ) hZ (hw _ tw77) (hw _ tw76) (by decide) (by decide)) (g := (mkF m 12 #[.val (.ref a0_), .unset] [(.int 0), (.int 2)])) rfl (by rw [hml]; rfl) (argsL := [(.int 2), (.int 0)]) (rest := []) (lenOf pd7 rfl) rfl (by show 2 * 0 + _ ≤ _; exact Nat.le_of_eq rfl) (hb hby d12_12) (fun _ _ => ⟨rfl, e11, (by decide : 0 + 0 ≤ _), (by decide : 0 + 0 ≤ _)⟩)
  dsimp only [Pt.U, Pt.locs, Pt.cells, Pt.slots] at X12 l12 y12 z12 st12 hQ12
  subst l12 y12 z12
  obtain ⟨rfl, Nq12, eq12⟩ := hQ12
  have N12 := Fr.app N0 Nq12
  refine Go.st st12 ?_
  show Go _ _ _ _ _ _ _ (T12.setTop (mkF m 15 _ [(.int 2)]))
  refine Go.st (t' := T12.setTop (mkF m 18 #[.val (.ref a0_), .val (.int 2)] [(.ref a0_), (.ref a0_)])) (fun target kt => ?_) ?_
  · refine XS.istoreN X12.here hx rfl (hb hby d12_15) rfl (l' := #[.val (.ref a0_), .val (.int 2)]) rfl ?_
    refine XS.aloadN X12.here hx rfl (hb hby d12_16) rfl rfl ?_
    refine XS.aloadN X12.here hx rfl (hb hby d12_17) rfl rfl ?_
    exact kt
  obtain ⟨T13, X13, e13, st13⟩ := getF X12 hx hZ hown (host := "") (Or.inl (hw _ tw16)) Via.refl eq12 F_m (g := (mkF m 18 #[.val (.ref a0_), .val (.int 2)] [(.ref a0_), (.ref a0_)])) rfl rfl (hb hby d12_18)
  refine Go.st st13 ?_
  show Go _ _ _ _ _ _ _ (T13.setTop (mkF m 21 _ [(.ref wn), (.ref a0_)]))
  refine Go.st (t' := T13.setTop (mkF m 24 #[.val (.ref a0_), .val (.int 2)] [(.int 4), (.ref wn), (.ref a0_)])) (fun target kt => ?_) ?_
  · refine XS.iconst X13.here hx rfl (hb hby d12_21) ?_
    refine XS.iloadN X13.here hx rfl (hb hby d12_22) rfl ?_
    refine XS.imul X13.here hx rfl (hb hby d12_23) rfl ?_
    exact kt
  obtain ⟨_, _, ⟨T14, L14, k14, n14⟩, -, X14, ⟨Lc14, hQ14, l14, y14, z14⟩, st14⟩ := Jvm.LawKit.callS X13 hx (y := (⟨"java/util/Arrays", "copyOf", "([Ljava/lang/Object;I)[Ljava/lang/Object;"⟩ : MethodName)) hown (mvT hZ (hw _ tw78)) (mvT hZ (hw _ tw79)) (mvT hZ (hw _ tw80)) (mvT hZ (hw _ tw81)) (by decide) (backOf (W := 1) (rm14_0 l Z a0 hw [] wn wm kn h0 n0 (Nat.le_trans Z0 K0.1) O0 M_AO E_wn V_wn ) hZ (hw _ tw81) (hw _ tw80) (by decide) (by decide)) (g := (mkF m 24 #[.val (.ref a0_), .val (.int 2)] [(.int 4), (.ref wn), (.ref a0_)])) rfl (by rw [hml]; rfl) (argsL := [(.ref wn), (.int 4)]) (rest := [(.ref a0_)]) (lenOf pd9 rfl) rfl (by show 2 * 0 + _ ≤ _; exact Nat.le_of_eq rfl) (hb hby d12_24) (fun _ _ => ⟨rfl, e13, (by decide : 0 + 1 ≤ _), (by decide : 0 + 4 ≤ _)⟩)
  dsimp only [Pt.U, Pt.locs, Pt.cells, Pt.slots] at X14 l14 y14 z14 st14 hQ14
  subst l14 y14 z14
  obtain ⟨b15, k16, rfl, Nq14, Kq14, q17, q18, q19, q20⟩ := hQ14
  have N14 := Fr.app N12 Nq14
  have sz21 : h0.size ≤ b15 := Nat.le_trans K0.1 q17
  have g22 : n0 ≤ b15 := Nat.le_trans Z0 sz21
  have K23 := K0.trans Kq14 all0
  have O24 := O0.keep Kq14 all0
  refine Go.st st14 ?_
  show Go _ _ _ _ _ _ _ (T14.setTop (mkF m 27 _ [(.ref b15), (.ref a0_)]))
  have c25 := F_m.keep Kq14 nin0
  have c26 := E0.keep Kq14
  obtain ⟨T27, h27, X27, e27, W27, st27⟩ := putF X14 hx hZ hown (host := "") (Or.inl (hw _ tw16)) Via.refl rfl c25 c26 (Or.inl (hw _ tw17)) (hw _ tw1) (ty := (.array (.object sq1))) (by decide) rfl rfl (g := (mkF m 27 #[.val (.ref a0_), .val (.int 2)] [(.ref b15), (.ref a0_)])) rfl rfl (hb hby d12_27)
  have F28 : Fld Z h27 a0_ sq0 "members" sq3 (.ref b15) := c25.same W27
  have K29 := K23.wr W27 (Or.inl (List.mem_of_getElem? (i := 0) rfl))
  have O30 := O24.wr W27 g0
  have N27 := Fr.snoc X27 N14 g0
  refine Go.st st27 ?_
  show Go _ _ _ _ _ _ _ (T27.setTop (mkF m 30 _ []))
  refine Go.st (t' := T27.setTop (mkF m 31 #[.val (.ref a0_), .val (.int 2)] [(.ref a0_)])) (fun target kt => ?_) ?_
  · refine XS.aloadN X27.here hx rfl (hb hby d12_30) rfl rfl ?_
    exact kt
  have c31 := (F_i.keep Kq14 nin0).other W27 (Or.inr (slot_ne (Or.inl (hw _ tw67)) (Or.inl (hw _ tw17)) (by decide) (t := (.array .int)) (t' := (.array (.object sq1))) (by decide) (by decide)))
  obtain ⟨T32, X32, e32, st32⟩ := getF X27 hx hZ hown (host := "") (Or.inl (hw _ tw66)) Via.refl e27 c31 (g := (mkF m 31 #[.val (.ref a0_), .val (.int 2)] [(.ref a0_)])) rfl rfl (hb hby d12_31)
  refine Go.st st32 ?_
  show Go _ _ _ _ _ _ _ (T32.setTop (mkF m 34 _ [.null]))
  refine Go.st (t' := T32.setTop (mkF m 41 #[.val (.ref a0_), .val (.int 2)] [])) (fun target kt => ?_) ?_
  · refine XS.ifnullYes X32.here hx rfl (pc0 := 34) (pc' := 41) rfl (hb hby d12_34) rfl (by decide) (by decide) ?_
    exact kt
  have c33 := c26.wr W27
  have c34 := (F_s.keep Kq14 nin0).other W27 (Or.inr (slot_ne (Or.inl (hw _ tw69)) (Or.inl (hw _ tw17)) (by decide) (t := .int) (t' := (.array (.object sq1))) (by decide) (by decide)))
  have c35 := (F_c.keep Kq14 nin0).other W27 (Or.inr (slot_ne (Or.inl (hw _ tw104)) (Or.inl (hw _ tw17)) (by decide) (t := .int) (t' := (.array (.object sq1))) (by decide) (by decide)))
  have c36 := q19.wr W27
  have o37 : a0_ < b15 := Nat.lt_of_lt_of_le E0.lt q17
  have ne38 : a0_ ≠ b15 := Nat.ne_of_lt o37
  have c39 := q20.other W27 (Ne.symm ne38)
  refine Go.ret X32 (v := none) (fun _ => rfl) hlk (fun fs hr => X32.returnOut hx hret (hb hby d12_41) hr) ?_ (by decide) (by decide)
  show Q12_0 Z a0_ wm wn kn pch h0 n0 _ T32.heap _
  rw [e32]
  exact ⟨b15, k16, rfl, N27, K29, (by first | assumption | decide | omega), (by first | assumption | decide | omega), c33, F28, c31, c34, c35, c36, c39⟩
theorem tw102 : (Jvm.Cond.castable "java/lang/Integer" "java/lang/Object") ∈ tables_1 := List.mem_of_getElem? (i := 102) rfl
theorem tw101 : (Jvm.Cond.castable "java/lang/String" "java/lang/Object") ∈ tables_1 := List.mem_of_getElem? (i := 101) rfl
theorem ef15_4 (m : MethodId) (x0 : Addr) (x2 : Addr) : entryFrame m #[(.ref x0), (.int 6), (.ref x2)] 4 = mkF m 0 #[.val (.ref x0), .val (.int 6), .val (.ref x2), .unset] [] := by first | (simp [entryFrame, mkF, argsToLocals, Value.category]; done) | rfl
def Q15_4 (Z : State) (am : Addr) (wm : Addr) (km : ClassId) (y0 : Addr) (u0 : Addr) (y1 : Addr) (u1 : Addr) (h0 : Heap) (n0 : Nat) (v : Option Value) (h : Heap) (L : List Loc) : Prop := ∃ (b : Addr) (kb : ClassId), v = some (.ref b) ∧ Fr n0 L ∧ Keep h0 h [] ∧ h0.size ≤ b ∧ Ovr Z kb sq1 ∧ Exa Z h b sq3 ∧ Arv Z h b kb (.object sq1) (6 : Int32) [(.ref y0), (.ref u0), (.ref y1), (.ref u1), .null, .null] .null
theorem rm15_4 (l : Launch) (Z : State) (a0 : Array Value) (hw : ∀ d ∈ tables_1, d.before a0 Z = true) (ws : List Jvm.Cond) (am : Addr) (wm : Addr) (km : ClassId) (y0 : Addr) (u0 : Addr) (y1 : Addr) (u1 : Addr) (h0 : Heap) (n0 : Nat) (Z0 : n0 ≤ h0.size) (O0 : Old Z n0 h0) (M_AO : MirM Z sq3 wm) (E_m : Exa Z h0 am sq3) (V_m : Arv Z h0 am km (.object sq1) (4 : Int32) [(.ref y0), (.ref u0), (.ref y1), (.ref u1)] .null) (E_y0 : Exa Z h0 y0 sq2) (E_y1 : Exa Z h0 y1 sq2) (E_u0 : Exa Z h0 u0 "java/lang/Integer") (E_u1 : Exa Z h0 u1 "java/lang/Integer") :
    Met l Z ws (⟨"java/util/Arrays", "copyOf", "([Ljava/lang/Object;ILjava/lang/Class;)[Ljava/lang/Object;"⟩ : MethodName) jdk_65_method_120_code 4 (some (.array (.object sq1))) (Rm 1 1 6 18) #[(.ref am), (.int 6), (.ref wm)] h0 (Q15_4 Z am wm km y0 u0 y1 u1 h0 n0) := by
  refine Met.enter (L0 := #[.val (.ref am), .val (.int 6), .val (.ref wm), .unset]) (plainFor_of_name pn191) (fun m => ef15_4 m am wm) ?_
  intro p e s m below meth c s₁ hx hby hml hown hnm hret hlk hZ X0 e0
  have N0 := Fr.nil n0
  have K0 : Keep h0 h0 [] := Keep.refl h0 _
  refine Go.st (t' := s₁.setTop (mkF m 1 #[.val (.ref am), .val (.int 6), .val (.ref wm), .unset] [(.ref wm)])) (fun target kt => ?_) ?_
  · refine XS.aloadN X0.here hx rfl (hb hby d15_0) rfl rfl ?_
    exact kt
  obtain ⟨T10, X10, e10, st10⟩ := own_ldcM X0 hx hZ hown (hw _ tw91) e0 M_AO (g := (mkF m 1 #[.val (.ref am), .val (.int 6), .val (.ref wm), .unset] [(.ref wm)])) rfl (hb hby d15_1)
  refine Go.st st10 ?_
  show Go _ _ _ _ _ _ _ (T10.setTop (mkF m 3 _ [(.ref wm), (.ref wm)]))
  refine Go.st (t' := T10.setTop (mkF m 7 #[.val (.ref am), .val (.int 6), .val (.ref wm), .unset] [(.int 6)])) (fun target kt => ?_) ?_
  · refine Jvm.RoadKit.acmp (g := (mkF m 3 #[.val (.ref am), .val (.int 6), .val (.ref wm), .unset] [(.ref wm), (.ref wm)])) X10 hx rfl rfl rfl (pc0 := 3) (pc' := 6) (same := true) rfl (hb hby d15_3) rfl (decide_eq_true rfl) (by decide) (by decide) ?_
    refine XS.iloadN X10.here hx rfl (hb hby d15_6) rfl ?_
    exact kt
  obtain ⟨T11, h11, k11, X11, e11, E11, A11, B11, O'11, st11⟩ := newRE X10 hx hZ hown (hw _ tw92) (hw _ tw93) e10 (g := (mkF m 7 #[.val (.ref am), .val (.int 6), .val (.ref wm), .unset] [(.int 6)])) rfl (hb hby d15_7) rfl (by decide) (cap := 6) (by decide) (by decide) (by decide) (by decide) (ad := sq3) (by decide)
  obtain ⟨b11, g11⟩ : ∃ z, z = h0.size := ⟨_, rfl⟩
  rw [← g11] at A11 B11 st11
  have lb12 : h0.size ≤ b11 := Nat.le_of_eq g11.symm
  have sz13 : h0.size ≤ b11 := Nat.le_trans K0.1 lb12
  have g14 : n0 ≤ b11 := Nat.le_trans Z0 sz13
  have K15 := K0.ext E11
  have O16 := O0.ext E11
  have V17 : Arv Z h11 b11 k11 (.object sq1) (6 : Int32) [.null, .null, .null, .null, .null, .null] .null := (Arv.new A11 (by decide)).pad (pad_rep [] .null 6)
  refine Go.st st11 ?_
  show Go _ _ _ _ _ _ _ (T11.setTop (mkF m 10 _ [(.ref b11)]))
  have c19 := V_m.ext E11
  obtain ⟨cl18, Ar18, -, S18, M18, -, -⟩ := id c19
  refine Go.st (t' := T11.setTop (mkF m 32 #[.val (.ref am), .val (.int 6), .val (.ref wm), .val (.ref b11)] [(.int 6), (.int 4), (.int 0), (.ref b11), (.int 0), (.ref am)])) (fun target kt => ?_) ?_
  · refine XS.goto X11.here hx rfl (pc0 := 10) (pc' := 24) rfl (hb hby d15_10) (by decide) (by decide) ?_
    refine XS.astoreN X11.here hx rfl (hb hby d15_24) rfl rfl (l' := #[.val (.ref am), .val (.int 6), .val (.ref wm), .val (.ref b11)]) rfl ?_
    refine XS.aloadN X11.here hx rfl (hb hby d15_25) rfl rfl ?_
    refine XS.iconst X11.here hx rfl (hb hby d15_26) ?_
    refine XS.aloadN X11.here hx rfl (hb hby d15_27) rfl rfl ?_
    refine XS.iconst X11.here hx rfl (hb hby d15_28) ?_
    refine XS.aloadN X11.here hx rfl (hb hby d15_29) rfl rfl ?_
    refine X11.arraylength hx (by rw [e11]; exact Ar18.1) (State.isArrayOf_alike hZ.alike Ar18.2.1) (g := (mkF m 30 #[.val (.ref am), .val (.int 6), .val (.ref wm), .val (.ref b11)] [(.ref am), (.int 0), (.ref b11), (.int 0), (.ref am)])) rfl rfl (hb hby d15_30) _ ?_
    rw [len_of S18 M18]
    refine XS.iloadN X11.here hx rfl (hb hby d15_31) rfl ?_
    exact kt
  obtain ⟨_, _, ⟨T20, L20, k20, n20⟩, -, X20, ⟨Lc20, hQ20, l20, y20, z20⟩, st20⟩ := Jvm.LawKit.callS X11 hx (y := (⟨"java/lang/Math", "min", "(II)I"⟩ : MethodName)) hown (mvT hZ (hw _ tw94)) (mvT hZ (hw _ tw95)) (mvT hZ (hw _ tw76)) (mvT hZ (hw _ tw96)) (by decide) (backOf (W := 4) (rm16_4_6 l Z a0 hw []  h11 n0 (Nat.le_trans Z0 K15.1) O16  ) hZ (hw _ tw96) (hw _ tw76) (by decide) (by decide)) (g := (mkF m 32 #[.val (.ref am), .val (.int 6), .val (.ref wm), .val (.ref b11)] [(.int 6), (.int 4), (.int 0), (.ref b11), (.int 0), (.ref am)])) rfl (by rw [hml]; rfl) (argsL := [(.int 4), (.int 6)]) (rest := [(.int 0), (.ref b11), (.int 0), (.ref am)]) (lenOf pd7 rfl) rfl (by show 2 * 0 + _ ≤ _; exact Nat.le_of_eq rfl) (hb hby d15_32) (fun _ _ => ⟨rfl, e11, (by decide : 1 + 0 ≤ _), (by decide : 6 + 0 ≤ _)⟩)
  dsimp only [Pt.U, Pt.locs, Pt.cells, Pt.slots] at X20 l20 y20 z20 st20 hQ20
  subst l20 y20 z20
  obtain ⟨rfl, Nq20, eq20⟩ := hQ20
  have N20 := Fr.app N0 Nq20
  refine Go.st st20 ?_
  show Go _ _ _ _ _ _ _ (T20.setTop (mkF m 35 _ [(.int 4), (.int 0), (.ref b11), (.int 0), (.ref am)]))
  obtain ⟨cl21, Ar21, q21, -, -, -, -⟩ := id V17
  have c22 := E_u1.ext E11
  have c23 := E_y1.ext E11
  have c24 := E_u0.ext E11
  have c25 := E_y0.ext E11
  have sl21 : StoL Z h11 b11 [(.ref y0), (.ref u0), (.ref y1), (.ref u1)] := ⟨Sto.ofV Ar21 q21 O'11 (Ins.of_exa c25 (hw _ tw101)), ⟨Sto.ofV Ar21 q21 O'11 (Ins.of_exa c24 (hw _ tw102)), ⟨Sto.ofV Ar21 q21 O'11 (Ins.of_exa c23 (hw _ tw101)), ⟨Sto.ofV Ar21 q21 O'11 (Ins.of_exa c22 (hw _ tw102)), trivial⟩⟩⟩⟩
  obtain ⟨T21, h21, L21, X21, e21, N21, Kq21, V21, st21⟩ := cpA X20 hx hZ hown (hw _ tw97) (hw _ tw100) (hw _ tw98) (hw _ tw99) eq20 c19 V17 (Or.inr ⟨rfl, rfl, sl21⟩) (sp := (0 : Int32)) (dp := (0 : Int32)) (nn := (4 : Int32)) (by decide) (by decide) (by decide) (by decide) (by decide) rfl (by decide) N20 g14 (g := (mkF m 35 #[.val (.ref am), .val (.int 6), .val (.ref wm), .val (.ref b11)] [(.int 4), (.int 0), (.ref b11), (.int 0), (.ref am)])) rfl (by rw [hml]; rfl) rfl (hb hby d15_35) (by decide) (W := 0) (by show 2 * 0 + _ ≤ _; exact Nat.le_of_eq rfl) (by decide)
  have K26 := K15.trans Kq21 (allS (Or.inr sz13) all0)
  have O27 := O16.keep Kq21 (allS g14 all0)
  have V28 : Arv Z h21 b11 k11 (.object sq1) (6 : Int32) [(.ref y0), (.ref u0), (.ref y1), (.ref u1), .null, .null] .null := V21
  refine Go.st st21 ?_
  show Go _ _ _ _ _ _ _ (T21.setTop (mkF m 38 _ []))
  refine Go.st (t' := T21.setTop (mkF m 39 #[.val (.ref am), .val (.int 6), .val (.ref wm), .val (.ref b11)] [(.ref b11)])) (fun target kt => ?_) ?_
  · refine XS.aloadN X21.here hx rfl (hb hby d15_38) rfl rfl ?_
    exact kt
  have c29 := B11.keep Kq21
  refine Go.ret X21 (v := some (.ref b11)) (fun h => by rw [hret] at h; cases h) hlk (fun fs hr => retR X21 hx hret rfl rfl (hb hby d15_39) hr) ?_ (by decide) (by decide)
  show Q15_4 Z am wm km y0 u0 y1 u1 h0 n0 _ T21.heap _
  rw [e21]
  exact ⟨b11, k11, rfl, N21, K26, sz13, (by first | assumption | decide | omega), c29, V28⟩
theorem ef14_4 (m : MethodId) (x0 : Addr) : entryFrame m #[(.ref x0), (.int 6)] 2 = mkF m 0 #[.val (.ref x0), .val (.int 6)] [] := by first | (simp [entryFrame, mkF, argsToLocals, Value.category]; done) | rfl
def Q14_4 (Z : State) (am : Addr) (wm : Addr) (km : ClassId) (y0 : Addr) (u0 : Addr) (y1 : Addr) (u1 : Addr) (h0 : Heap) (n0 : Nat) (v : Option Value) (h : Heap) (L : List Loc) : Prop := ∃ (b : Addr) (kb : ClassId), v = some (.ref b) ∧ Fr n0 L ∧ Keep h0 h [] ∧ h0.size ≤ b ∧ Ovr Z kb sq1 ∧ Exa Z h b sq3 ∧ Arv Z h b kb (.object sq1) (6 : Int32) [(.ref y0), (.ref u0), (.ref y1), (.ref u1), .null, .null] .null
theorem rm14_4 (l : Launch) (Z : State) (a0 : Array Value) (hw : ∀ d ∈ tables_1, d.before a0 Z = true) (ws : List Jvm.Cond) (am : Addr) (wm : Addr) (km : ClassId) (y0 : Addr) (u0 : Addr) (y1 : Addr) (u1 : Addr) (h0 : Heap) (n0 : Nat) (Z0 : n0 ≤ h0.size) (O0 : Old Z n0 h0) (M_AO : MirM Z sq3 wm) (E_m : Exa Z h0 am sq3) (V_m : Arv Z h0 am km (.object sq1) (4 : Int32) [(.ref y0), (.ref u0), (.ref y1), (.ref u1)] .null) (E_y0 : Exa Z h0 y0 sq2) (E_y1 : Exa Z h0 y1 sq2) (E_u0 : Exa Z h0 u0 "java/lang/Integer") (E_u1 : Exa Z h0 u1 "java/lang/Integer") :
    Met l Z ws (⟨"java/util/Arrays", "copyOf", "([Ljava/lang/Object;I)[Ljava/lang/Object;"⟩ : MethodName) jdk_65_method_119_code 2 (some (.array (.object sq1))) (Rm 2 1 6 33) #[(.ref am), (.int 6)] h0 (Q14_4 Z am wm km y0 u0 y1 u1 h0 n0) := by
  refine Met.enter (L0 := #[.val (.ref am), .val (.int 6)]) (plainFor_of_name pn191) (fun m => ef14_4 m am) ?_
  intro p e s m below meth c s₁ hx hby hml hown hnm hret hlk hZ X0 e0
  have N0 := Fr.nil n0
  have K0 : Keep h0 h0 [] := Keep.refl h0 _
  refine Go.st (t' := s₁.setTop (mkF m 3 #[.val (.ref am), .val (.int 6)] [(.ref am), (.int 6), (.ref am)])) (fun target kt => ?_) ?_
  · refine XS.aloadN X0.here hx rfl (hb hby d14_0) rfl rfl ?_
    refine XS.iloadN X0.here hx rfl (hb hby d14_1) rfl ?_
    refine XS.aloadN X0.here hx rfl (hb hby d14_2) rfl rfl ?_
    exact kt
  obtain ⟨T10, X10, e10, st10⟩ := own_gcls X0 hx hZ hown (hw _ tw82) (hw _ tw83) (hw _ tw85) (hw _ tw84) (hw _ tw86) e0 E_m M_AO (g := (mkF m 3 #[.val (.ref am), .val (.int 6)] [(.ref am), (.int 6), (.ref am)])) rfl (by rw [hml]; rfl) rfl (hb hby d14_3) (by decide) (W := 2) (by show 2 * 0 + _ ≤ _; exact Nat.le_of_eq rfl) (by decide)
  refine Go.st st10 ?_
  show Go _ _ _ _ _ _ _ (T10.setTop (mkF m 6 _ [(.ref wm), (.int 6), (.ref am)]))
  obtain ⟨_, _, ⟨T11, L11, k11, n11⟩, -, X11, ⟨Lc11, hQ11, l11, y11, z11⟩, st11⟩ := Jvm.LawKit.callS X10 hx (y := (⟨"java/util/Arrays", "copyOf", "([Ljava/lang/Object;ILjava/lang/Class;)[Ljava/lang/Object;"⟩ : MethodName)) hown (mvT hZ (hw _ tw88)) (mvT hZ (hw _ tw89)) (mvT hZ (hw _ tw80)) (mvT hZ (hw _ tw90)) (by decide) (backOf (W := 0) (rm15_4 l Z a0 hw [] am wm km y0 u0 y1 u1 h0 n0 (Nat.le_trans Z0 K0.1) O0 M_AO E_m V_m E_y0 E_y1 E_u0 E_u1) hZ (hw _ tw90) (hw _ tw80) (by decide) (by decide)) (g := (mkF m 6 #[.val (.ref am), .val (.int 6)] [(.ref wm), (.int 6), (.ref am)])) rfl (by rw [hml]; rfl) (argsL := [(.ref am), (.int 6), (.ref wm)]) (rest := []) (lenOf pd8 rfl) rfl (by show 2 * 0 + _ ≤ _; exact Nat.le_of_eq rfl) (hb hby d14_6) (fun _ _ => ⟨rfl, e10, (by decide : 0 + 1 ≤ _), (by decide : 0 + 6 ≤ _)⟩)
  dsimp only [Pt.U, Pt.locs, Pt.cells, Pt.slots] at X11 l11 y11 z11 st11 hQ11
  subst l11 y11 z11
  obtain ⟨b12, k13, rfl, Nq11, Kq11, q14, q15, q16, q17⟩ := hQ11
  have N11 := Fr.app N0 Nq11
  have sz18 : h0.size ≤ b12 := Nat.le_trans K0.1 q14
  have g19 : n0 ≤ b12 := Nat.le_trans Z0 sz18
  have K20 := K0.trans Kq11 all0
  have O21 := O0.keep Kq11 all0
  refine Go.st st11 ?_
  show Go _ _ _ _ _ _ _ (T11.setTop (mkF m 9 _ [(.ref b12)]))
  refine Go.ret X11 (v := some (.ref b12)) (fun h => by rw [hret] at h; cases h) hlk (fun fs hr => retR X11 hx hret rfl rfl (hb hby d14_9) hr) ?_ (by decide) (by decide)
  show Q14_4 Z am wm km y0 u0 y1 u1 h0 n0 _ T11.heap _
  exact ⟨b12, k13, rfl, N11, K20, sz18, (by first | assumption | decide | omega), q16, q17⟩
theorem ef12_4 (m : MethodId) (x0 : Addr) : entryFrame m #[(.ref x0)] 2 = mkF m 0 #[.val (.ref x0), .unset] [] := by first | (simp [entryFrame, mkF, argsToLocals, Value.category]; done) | rfl
def Q12_4 (Z : State) (a0_ : Addr) (wm : Addr) (am : Addr) (km : ClassId) (y0 : Addr) (u0 : Addr) (y1 : Addr) (u1 : Addr) (pch : Int32) (h0 : Heap) (n0 : Nat) (v : Option Value) (h : Heap) (L : List Loc) : Prop := ∃ (b : Addr) (kb : ClassId), v = none ∧ Fr n0 L ∧ Keep h0 h [a0_] ∧ h0.size ≤ b ∧ Ovr Z kb sq1 ∧ Exa Z h a0_ sq0 ∧ Fld Z h a0_ sq0 "members" sq3 (.ref b) ∧ Fld Z h a0_ sq0 "index" "[I" .null ∧ Fld Z h a0_ sq0 "size" "I" (.int 2) ∧ Fld Z h a0_ sq0 "changes" "I" (.int pch) ∧ Exa Z h b sq3 ∧ Arv Z h b kb (.object sq1) (6 : Int32) [(.ref y0), (.ref u0), (.ref y1), (.ref u1), .null, .null] .null
theorem rm12_4 (l : Launch) (Z : State) (a0 : Array Value) (hw : ∀ d ∈ tables_1, d.before a0 Z = true) (ws : List Jvm.Cond) (a0_ : Addr) (wm : Addr) (am : Addr) (km : ClassId) (y0 : Addr) (u0 : Addr) (y1 : Addr) (u1 : Addr) (pch : Int32) (h0 : Heap) (n0 : Nat) (Z0 : n0 ≤ h0.size) (O0 : Old Z n0 h0) (M_AO : MirM Z sq3 wm) (E0 : Exa Z h0 a0_ sq0) (F_m : Fld Z h0 a0_ sq0 "members" sq3 (.ref am)) (F_i : Fld Z h0 a0_ sq0 "index" "[I" .null) (F_s : Fld Z h0 a0_ sq0 "size" "I" (.int 2)) (F_c : Fld Z h0 a0_ sq0 "changes" "I" (.int pch)) (E_m : Exa Z h0 am sq3) (V_m : Arv Z h0 am km (.object sq1) (4 : Int32) [(.ref y0), (.ref u0), (.ref y1), (.ref u1)] .null) (E_y0 : Exa Z h0 y0 sq2) (E_y1 : Exa Z h0 y1 sq2) (E_u0 : Exa Z h0 u0 "java/lang/Integer") (E_u1 : Exa Z h0 u1 "java/lang/Integer") (g0 : n0 ≤ a0_) :
    Met l Z ws (⟨sq0, "grow", "()V"⟩ : MethodName) prog_14_method_12_code 2 none (Rm 3 1 6 47) #[(.ref a0_)] h0 (Q12_4 Z a0_ wm am km y0 u0 y1 u1 pch h0 n0) := by
  refine Met.enter (L0 := #[.val (.ref a0_), .unset]) (plainFor_of_name pn10) (fun m => ef12_4 m a0_) ?_
  intro p e s m below meth c s₁ hx hby hml hown hnm hret hlk hZ X0 e0
  have N0 := Fr.nil n0
  have K0 : Keep h0 h0 [a0_] := Keep.refl h0 _
  refine Go.st (t' := s₁.setTop (mkF m 2 #[.val (.ref a0_), .unset] [(.ref a0_), (.int 2)])) (fun target kt => ?_) ?_
  · refine XS.iconst X0.here hx rfl (hb hby d12_0) ?_
    refine XS.aloadN X0.here hx rfl (hb hby d12_1) rfl rfl ?_
    exact kt
  obtain ⟨T10, X10, e10, st10⟩ := getF X0 hx hZ hown (host := "") (Or.inl (hw _ tw68)) Via.refl e0 F_s (g := (mkF m 2 #[.val (.ref a0_), .unset] [(.ref a0_), (.int 2)])) rfl rfl (hb hby d12_2)
  refine Go.st st10 ?_
  show Go _ _ _ _ _ _ _ (T10.setTop (mkF m 5 _ [(.int 2), (.int 2)]))
  refine Go.st (t' := T10.setTop (mkF m 6 #[.val (.ref a0_), .unset] [(.ref a0_), (.int 2), (.int 2)])) (fun target kt => ?_) ?_
  · refine XS.aloadN X10.here hx rfl (hb hby d12_5) rfl rfl ?_
    exact kt
  obtain ⟨T11, X11, e11, st11⟩ := getF X10 hx hZ hown (host := "") (Or.inl (hw _ tw68)) Via.refl e10 F_s (g := (mkF m 6 #[.val (.ref a0_), .unset] [(.ref a0_), (.int 2), (.int 2)])) rfl rfl (hb hby d12_6)
  refine Go.st st11 ?_
  show Go _ _ _ _ _ _ _ (T11.setTop (mkF m 9 _ [(.int 2), (.int 2), (.int 2)]))
  refine Go.st (t' := T11.setTop (mkF m 12 #[.val (.ref a0_), .unset] [(.int 3), (.int 2)])) (fun target kt => ?_) ?_
  · refine XS.iconst X11.here hx rfl (hb hby d12_9) ?_
    refine XS.ishr X11.here hx rfl (hb hby d12_10) rfl ?_
    refine XS.iadd X11.here hx rfl (hb hby d12_11) rfl ?_
    exact kt
  obtain ⟨_, _, ⟨T12, L12, k12, n12⟩, -, X12, ⟨Lc12, hQ12, l12, y12, z12⟩, st12⟩ := Jvm.LawKit.callS X11 hx (y := (⟨"java/lang/Math", "max", "(II)I"⟩ : MethodName)) hown (mvT hZ (hw _ tw74)) (mvT hZ (hw _ tw75)) (mvT hZ (hw _ tw76)) (mvT hZ (hw _ tw77)) (by decide) (backOf (W := 0) (rm13_2_3 l Z a0 hw []  h0 n0 (Nat.le_trans Z0 K0.1) O0  ) hZ (hw _ tw77) (hw _ tw76) (by decide) (by decide)) (g := (mkF m 12 #[.val (.ref a0_), .unset] [(.int 3), (.int 2)])) rfl (by rw [hml]; rfl) (argsL := [(.int 2), (.int 3)]) (rest := []) (lenOf pd7 rfl) rfl (by show 2 * 0 + _ ≤ _; exact Nat.le_of_eq rfl) (hb hby d12_12) (fun _ _ => ⟨rfl, e11, (by decide : 0 + 0 ≤ _), (by decide : 0 + 0 ≤ _)⟩)
  dsimp only [Pt.U, Pt.locs, Pt.cells, Pt.slots] at X12 l12 y12 z12 st12 hQ12
  subst l12 y12 z12
  obtain ⟨rfl, Nq12, eq12⟩ := hQ12
  have N12 := Fr.app N0 Nq12
  refine Go.st st12 ?_
  show Go _ _ _ _ _ _ _ (T12.setTop (mkF m 15 _ [(.int 3)]))
  refine Go.st (t' := T12.setTop (mkF m 18 #[.val (.ref a0_), .val (.int 3)] [(.ref a0_), (.ref a0_)])) (fun target kt => ?_) ?_
  · refine XS.istoreN X12.here hx rfl (hb hby d12_15) rfl (l' := #[.val (.ref a0_), .val (.int 3)]) rfl ?_
    refine XS.aloadN X12.here hx rfl (hb hby d12_16) rfl rfl ?_
    refine XS.aloadN X12.here hx rfl (hb hby d12_17) rfl rfl ?_
    exact kt
  obtain ⟨T13, X13, e13, st13⟩ := getF X12 hx hZ hown (host := "") (Or.inl (hw _ tw16)) Via.refl eq12 F_m (g := (mkF m 18 #[.val (.ref a0_), .val (.int 3)] [(.ref a0_), (.ref a0_)])) rfl rfl (hb hby d12_18)
  refine Go.st st13 ?_
  show Go _ _ _ _ _ _ _ (T13.setTop (mkF m 21 _ [(.ref am), (.ref a0_)]))
  refine Go.st (t' := T13.setTop (mkF m 24 #[.val (.ref a0_), .val (.int 3)] [(.int 6), (.ref am), (.ref a0_)])) (fun target kt => ?_) ?_
  · refine XS.iconst X13.here hx rfl (hb hby d12_21) ?_
    refine XS.iloadN X13.here hx rfl (hb hby d12_22) rfl ?_
    refine XS.imul X13.here hx rfl (hb hby d12_23) rfl ?_
    exact kt
  obtain ⟨_, _, ⟨T14, L14, k14, n14⟩, -, X14, ⟨Lc14, hQ14, l14, y14, z14⟩, st14⟩ := Jvm.LawKit.callS X13 hx (y := (⟨"java/util/Arrays", "copyOf", "([Ljava/lang/Object;I)[Ljava/lang/Object;"⟩ : MethodName)) hown (mvT hZ (hw _ tw78)) (mvT hZ (hw _ tw79)) (mvT hZ (hw _ tw80)) (mvT hZ (hw _ tw81)) (by decide) (backOf (W := 1) (rm14_4 l Z a0 hw [] am wm km y0 u0 y1 u1 h0 n0 (Nat.le_trans Z0 K0.1) O0 M_AO E_m V_m E_y0 E_y1 E_u0 E_u1) hZ (hw _ tw81) (hw _ tw80) (by decide) (by decide)) (g := (mkF m 24 #[.val (.ref a0_), .val (.int 3)] [(.int 6), (.ref am), (.ref a0_)])) rfl (by rw [hml]; rfl) (argsL := [(.ref am), (.int 6)]) (rest := [(.ref a0_)]) (lenOf pd9 rfl) rfl (by show 2 * 0 + _ ≤ _; exact Nat.le_of_eq rfl) (hb hby d12_24) (fun _ _ => ⟨rfl, e13, (by decide : 0 + 1 ≤ _), (by decide : 0 + 6 ≤ _)⟩)
  dsimp only [Pt.U, Pt.locs, Pt.cells, Pt.slots] at X14 l14 y14 z14 st14 hQ14
  subst l14 y14 z14
  obtain ⟨b15, k16, rfl, Nq14, Kq14, q17, q18, q19, q20⟩ := hQ14
  have N14 := Fr.app N12 Nq14
  have sz21 : h0.size ≤ b15 := Nat.le_trans K0.1 q17
  have g22 : n0 ≤ b15 := Nat.le_trans Z0 sz21
  have K23 := K0.trans Kq14 all0
  have O24 := O0.keep Kq14 all0
  refine Go.st st14 ?_
  show Go _ _ _ _ _ _ _ (T14.setTop (mkF m 27 _ [(.ref b15), (.ref a0_)]))
  have c25 := F_m.keep Kq14 nin0
  have c26 := E0.keep Kq14
  obtain ⟨T27, h27, X27, e27, W27, st27⟩ := putF X14 hx hZ hown (host := "") (Or.inl (hw _ tw16)) Via.refl rfl c25 c26 (Or.inl (hw _ tw17)) (hw _ tw1) (ty := (.array (.object sq1))) (by decide) rfl rfl (g := (mkF m 27 #[.val (.ref a0_), .val (.int 3)] [(.ref b15), (.ref a0_)])) rfl rfl (hb hby d12_27)
  have F28 : Fld Z h27 a0_ sq0 "members" sq3 (.ref b15) := c25.same W27
  have K29 := K23.wr W27 (Or.inl (List.mem_of_getElem? (i := 0) rfl))
  have O30 := O24.wr W27 g0
  have N27 := Fr.snoc X27 N14 g0
  refine Go.st st27 ?_
  show Go _ _ _ _ _ _ _ (T27.setTop (mkF m 30 _ []))
  refine Go.st (t' := T27.setTop (mkF m 31 #[.val (.ref a0_), .val (.int 3)] [(.ref a0_)])) (fun target kt => ?_) ?_
  · refine XS.aloadN X27.here hx rfl (hb hby d12_30) rfl rfl ?_
    exact kt
  have c31 := (F_i.keep Kq14 nin0).other W27 (Or.inr (slot_ne (Or.inl (hw _ tw67)) (Or.inl (hw _ tw17)) (by decide) (t := (.array .int)) (t' := (.array (.object sq1))) (by decide) (by decide)))
  obtain ⟨T32, X32, e32, st32⟩ := getF X27 hx hZ hown (host := "") (Or.inl (hw _ tw66)) Via.refl e27 c31 (g := (mkF m 31 #[.val (.ref a0_), .val (.int 3)] [(.ref a0_)])) rfl rfl (hb hby d12_31)
  refine Go.st st32 ?_
  show Go _ _ _ _ _ _ _ (T32.setTop (mkF m 34 _ [.null]))
  refine Go.st (t' := T32.setTop (mkF m 41 #[.val (.ref a0_), .val (.int 3)] [])) (fun target kt => ?_) ?_
  · refine XS.ifnullYes X32.here hx rfl (pc0 := 34) (pc' := 41) rfl (hb hby d12_34) rfl (by decide) (by decide) ?_
    exact kt
  have c33 := c26.wr W27
  have c34 := (F_s.keep Kq14 nin0).other W27 (Or.inr (slot_ne (Or.inl (hw _ tw69)) (Or.inl (hw _ tw17)) (by decide) (t := .int) (t' := (.array (.object sq1))) (by decide) (by decide)))
  have c35 := (F_c.keep Kq14 nin0).other W27 (Or.inr (slot_ne (Or.inl (hw _ tw104)) (Or.inl (hw _ tw17)) (by decide) (t := .int) (t' := (.array (.object sq1))) (by decide) (by decide)))
  have c36 := q19.wr W27
  have o37 : a0_ < b15 := Nat.lt_of_lt_of_le E0.lt q17
  have ne38 : a0_ ≠ b15 := Nat.ne_of_lt o37
  have c39 := q20.other W27 (Ne.symm ne38)
  refine Go.ret X32 (v := none) (fun _ => rfl) hlk (fun fs hr => X32.returnOut hx hret (hb hby d12_41) hr) ?_ (by decide) (by decide)
  show Q12_4 Z a0_ wm am km y0 u0 y1 u1 pch h0 n0 _ T32.heap _
  rw [e32]
  exact ⟨b15, k16, rfl, N27, K29, (by first | assumption | decide | omega), (by first | assumption | decide | omega), c33, F28, c31, c34, c35, c36, c39⟩
theorem d9_0 : decode prog_14_method_5_code 0 = .ok (.aload_n 0, 1) := by decide +kernel
theorem d9_1 : decode prog_14_method_5_code 1 = .ok (.aload_n 1, 1) := by decide +kernel
theorem d9_2 : decode prog_14_method_5_code 2 = .ok (.ldc 24, 2) := by decide +kernel
theorem tw54 : (Jvm.Cond.stringLink "com/example/graphweave/graphweave/json/JsonObject" (24 : Nat) "name") ∈ tables_1 := List.mem_of_getElem? (i := 54) rfl
theorem d9_4 : decode prog_14_method_5_code 4 = .ok (.invokestatic 26, 3) := by decide +kernel
theorem tw57 : (Jvm.Cond.methodLink "com/example/graphweave/graphweave/json/JsonObject" (26 : Nat) ({ cls := "java/util/Objects", name := "requireNonNull", desc := "(Ljava/lang/Object;Ljava/lang/String;)Ljava/lang/Object;" } : Jvm.MethodName)) ∈ tables_1 := List.mem_of_getElem? (i := 57) rfl
theorem tw60 : (Jvm.Cond.code ({ cls := "java/util/Objects", name := "requireNonNull", desc := "(Ljava/lang/Object;Ljava/lang/String;)Ljava/lang/Object;" } : Jvm.MethodName) jdk_31_method_11_code (2 : Nat) (Option.some (Jvm.ClassFile.FieldType.object "java/lang/Object"))) ∈ tables_1 := List.mem_of_getElem? (i := 60) rfl
theorem tw59 : (Jvm.Cond.initialized "java/util/Objects") ∈ tables_1 := List.mem_of_getElem? (i := 59) rfl
theorem pd10 : parseMethodDescriptor "(Ljava/lang/Object;Ljava/lang/String;)Ljava/lang/Object;" = some ⟨[(.object "java/lang/Object"), (.object "java/lang/String")], some (.object "java/lang/Object")⟩ := by decide +kernel
theorem tw58 : (Jvm.Cond.static ({ cls := "java/util/Objects", name := "requireNonNull", desc := "(Ljava/lang/Object;Ljava/lang/String;)Ljava/lang/Object;" } : Jvm.MethodName)) ∈ tables_1 := List.mem_of_getElem? (i := 58) rfl
theorem d9_7 : decode prog_14_method_5_code 7 = .ok (.invokevirtual 20, 3) := by decide +kernel
theorem tw61 : (Jvm.Cond.methodLink "com/example/graphweave/graphweave/json/JsonObject" (20 : Nat) ({ cls := "com/example/graphweave/graphweave/json/JsonObject", name := "find", desc := "(Ljava/lang/Object;)I" } : Jvm.MethodName)) ∈ tables_1 := List.mem_of_getElem? (i := 61) rfl
theorem tw64 : (Jvm.Cond.code ({ cls := "com/example/graphweave/graphweave/json/JsonObject", name := "find", desc := "(Ljava/lang/Object;)I" } : Jvm.MethodName) prog_14_method_11_code (5 : Nat) (Option.some Jvm.ClassFile.FieldType.int)) ∈ tables_1 := List.mem_of_getElem? (i := 64) rfl
theorem tw2 : (Jvm.Cond.initialized "com/example/graphweave/graphweave/json/JsonObject") ∈ tables_1 := List.mem_of_getElem? (i := 2) rfl
theorem pd11 : parseMethodDescriptor "(Ljava/lang/Object;)I" = some ⟨[(.object "java/lang/Object")], some .int⟩ := by decide +kernel
theorem tw62 : (Jvm.Cond.instanceMethod ({ cls := "com/example/graphweave/graphweave/json/JsonObject", name := "find", desc := "(Ljava/lang/Object;)I" } : Jvm.MethodName)) ∈ tables_1 := List.mem_of_getElem? (i := 62) rfl
theorem tw63 : (Jvm.Cond.privateMethod ({ cls := "com/example/graphweave/graphweave/json/JsonObject", name := "find", desc := "(Ljava/lang/Object;)I" } : Jvm.MethodName)) ∈ tables_1 := List.mem_of_getElem? (i := 63) rfl
theorem d9_10 : decode prog_14_method_5_code 10 = .ok (.istore_n 3, 1) := by decide +kernel
theorem d9_11 : decode prog_14_method_5_code 11 = .ok (.iload_n 3, 1) := by decide +kernel
theorem d9_12 : decode prog_14_method_5_code 12 = .ok (.ifCond .lt 29, 3) := by decide +kernel
theorem d9_41 : decode prog_14_method_5_code 41 = .ok (.iconst 2, 1) := by decide +kernel
theorem d9_42 : decode prog_14_method_5_code 42 = .ok (.aload_n 0, 1) := by decide +kernel
theorem d9_43 : decode prog_14_method_5_code 43 = .ok (.getfield 16, 3) := by decide +kernel
theorem d9_46 : decode prog_14_method_5_code 46 = .ok (.imul, 1) := by decide +kernel
theorem d9_47 : decode prog_14_method_5_code 47 = .ok (.aload_n 0, 1) := by decide +kernel
theorem d9_48 : decode prog_14_method_5_code 48 = .ok (.getfield 13, 3) := by decide +kernel
theorem d9_51 : decode prog_14_method_5_code 51 = .ok (.arraylength, 1) := by decide +kernel
theorem d9_52 : decode prog_14_method_5_code 52 = .ok (.if_icmp .ne 7, 3) := by decide +kernel
theorem d9_55 : decode prog_14_method_5_code 55 = .ok (.aload_n 0, 1) := by decide +kernel
theorem d9_56 : decode prog_14_method_5_code 56 = .ok (.invokevirtual 32, 3) := by decide +kernel
theorem tw70 : (Jvm.Cond.methodLink "com/example/graphweave/graphweave/json/JsonObject" (32 : Nat) ({ cls := "com/example/graphweave/graphweave/json/JsonObject", name := "grow", desc := "()V" } : Jvm.MethodName)) ∈ tables_1 := List.mem_of_getElem? (i := 70) rfl
theorem tw73 : (Jvm.Cond.code ({ cls := "com/example/graphweave/graphweave/json/JsonObject", name := "grow", desc := "()V" } : Jvm.MethodName) prog_14_method_12_code (2 : Nat) (Option.none : Option Jvm.ClassFile.FieldType)) ∈ tables_1 := List.mem_of_getElem? (i := 73) rfl
theorem tw71 : (Jvm.Cond.instanceMethod ({ cls := "com/example/graphweave/graphweave/json/JsonObject", name := "grow", desc := "()V" } : Jvm.MethodName)) ∈ tables_1 := List.mem_of_getElem? (i := 71) rfl
theorem tw72 : (Jvm.Cond.privateMethod ({ cls := "com/example/graphweave/graphweave/json/JsonObject", name := "grow", desc := "()V" } : Jvm.MethodName)) ∈ tables_1 := List.mem_of_getElem? (i := 72) rfl
theorem d9_59 : decode prog_14_method_5_code 59 = .ok (.aload_n 0, 1) := by decide +kernel
theorem d9_60 : decode prog_14_method_5_code 60 = .ok (.getfield 13, 3) := by decide +kernel
theorem d9_63 : decode prog_14_method_5_code 63 = .ok (.iconst 2, 1) := by decide +kernel
theorem d9_64 : decode prog_14_method_5_code 64 = .ok (.aload_n 0, 1) := by decide +kernel
theorem d9_65 : decode prog_14_method_5_code 65 = .ok (.getfield 16, 3) := by decide +kernel
theorem d9_68 : decode prog_14_method_5_code 68 = .ok (.imul, 1) := by decide +kernel
theorem d9_69 : decode prog_14_method_5_code 69 = .ok (.aload_n 1, 1) := by decide +kernel
theorem d9_70 : decode prog_14_method_5_code 70 = .ok (.aastore, 1) := by decide +kernel
theorem d9_71 : decode prog_14_method_5_code 71 = .ok (.aload_n 0, 1) := by decide +kernel
theorem d9_72 : decode prog_14_method_5_code 72 = .ok (.getfield 13, 3) := by decide +kernel
theorem d9_75 : decode prog_14_method_5_code 75 = .ok (.iconst 2, 1) := by decide +kernel
theorem d9_76 : decode prog_14_method_5_code 76 = .ok (.aload_n 0, 1) := by decide +kernel
theorem d9_77 : decode prog_14_method_5_code 77 = .ok (.getfield 16, 3) := by decide +kernel
theorem d9_80 : decode prog_14_method_5_code 80 = .ok (.imul, 1) := by decide +kernel
theorem d9_81 : decode prog_14_method_5_code 81 = .ok (.iconst 1, 1) := by decide +kernel
theorem d9_82 : decode prog_14_method_5_code 82 = .ok (.iadd, 1) := by decide +kernel
theorem d9_83 : decode prog_14_method_5_code 83 = .ok (.aload_n 2, 1) := by decide +kernel
theorem d9_84 : decode prog_14_method_5_code 84 = .ok (.aastore, 1) := by decide +kernel
theorem d9_85 : decode prog_14_method_5_code 85 = .ok (.aload_n 0, 1) := by decide +kernel
theorem d9_86 : decode prog_14_method_5_code 86 = .ok (.dup, 1) := by decide +kernel
theorem d9_87 : decode prog_14_method_5_code 87 = .ok (.getfield 16, 3) := by decide +kernel
theorem d9_90 : decode prog_14_method_5_code 90 = .ok (.iconst 1, 1) := by decide +kernel
theorem d9_91 : decode prog_14_method_5_code 91 = .ok (.iadd, 1) := by decide +kernel
theorem d9_92 : decode prog_14_method_5_code 92 = .ok (.putfield 16, 3) := by decide +kernel
theorem d9_95 : decode prog_14_method_5_code 95 = .ok (.aload_n 0, 1) := by decide +kernel
theorem d9_96 : decode prog_14_method_5_code 96 = .ok (.dup, 1) := by decide +kernel
theorem d9_97 : decode prog_14_method_5_code 97 = .ok (.getfield 35, 3) := by decide +kernel
theorem tw103 : (Jvm.Cond.fieldLink "com/example/graphweave/graphweave/json/JsonObject" (35 : Nat) "com/example/graphweave/graphweave/json/JsonObject" "changes" "I") ∈ tables_1 := List.mem_of_getElem? (i := 103) rfl
theorem d9_100 : decode prog_14_method_5_code 100 = .ok (.iconst 1, 1) := by decide +kernel
theorem d9_101 : decode prog_14_method_5_code 101 = .ok (.iadd, 1) := by decide +kernel
theorem d9_102 : decode prog_14_method_5_code 102 = .ok (.putfield 35, 3) := by decide +kernel
theorem d9_105 : decode prog_14_method_5_code 105 = .ok (.aload_n 0, 1) := by decide +kernel
theorem d9_106 : decode prog_14_method_5_code 106 = .ok (.getfield 38, 3) := by decide +kernel
theorem d9_109 : decode prog_14_method_5_code 109 = .ok (.ifnull 16, 3) := by decide +kernel
theorem d9_125 : decode prog_14_method_5_code 125 = .ok (.aload_n 0, 1) := by decide +kernel
theorem d9_126 : decode prog_14_method_5_code 126 = .ok (.getfield 16, 3) := by decide +kernel
theorem d9_129 : decode prog_14_method_5_code 129 = .ok (.bipush 8, 2) := by decide +kernel
theorem d9_131 : decode prog_14_method_5_code 131 = .ok (.if_icmp .le 7, 3) := by decide +kernel
theorem d9_138 : decode prog_14_method_5_code 138 = .ok (.aconst_null, 1) := by decide +kernel
theorem d9_139 : decode prog_14_method_5_code 139 = .ok (.areturn, 1) := by decide +kernel
theorem ef9_none_0_0_R (m : MethodId) (x0 : Addr) (x1 : Addr) (x2 : Addr) : entryFrame m #[(.ref x0), (.ref x1), (.ref x2)] 5 = mkF m 0 #[.val (.ref x0), .val (.ref x1), .val (.ref x2), .unset, .unset] [] := by first | (simp [entryFrame, mkF, argsToLocals, Value.category]; done) | rfl
def Q9_none_0_0_R (Z : State) (a0_ : Addr) (a1_ : Addr) (a2_ : Addr) (pch : Int32) (wcs : Int32) (wm : Addr) (wn : Addr) (kn : ClassId) (h0 : Heap) (n0 : Nat) (v : Option Value) (h : Heap) (L : List Loc) : Prop := ∃ (b : Addr) (kb : ClassId), v = some .null ∧ Fr n0 L ∧ Keep h0 h [a0_] ∧ h0.size ≤ b ∧ Ovr Z kb sq1 ∧ Exa Z h a0_ sq0 ∧ Fld Z h a0_ sq0 "members" sq3 (.ref b) ∧ Fld Z h a0_ sq0 "index" "[I" .null ∧ Fld Z h a0_ sq0 "size" "I" (.int 1) ∧ Fld Z h a0_ sq0 "changes" "I" (.int (pch + (1 : Int32))) ∧ Exa Z h b sq3 ∧ Arv Z h b kb (.object sq1) (4 : Int32) [(.ref a1_), (.ref a2_), .null, .null] .null
theorem rm9_none_0_0_R (l : Launch) (Z : State) (a0 : Array Value) (hw : ∀ d ∈ tables_1, d.before a0 Z = true) (ws : List Jvm.Cond) (a0_ : Addr) (a1_ : Addr) (a2_ : Addr) (pch : Int32) (wcs : Int32) (wm : Addr) (wn : Addr) (kn : ClassId) (h0 : Heap) (n0 : Nat) (Z0 : n0 ≤ h0.size) (O0 : Old Z n0 h0) (S_CS : Sta Z Z.heap sq2 "COMPACT_STRINGS" "Z" (.int wcs)) (hcs : ¬ (wcs = (0 : Int32))) (M_AO : MirM Z sq3 wm) (S_NM : Sta Z Z.heap sq0 "NO_MEMBERS" sq3 (.ref wn)) (E_wn : Exa Z Z.heap wn sq3) (V_wn : Arv Z Z.heap wn kn (.object sq1) (0 : Int32) [] .null) (E0 : Exa Z h0 a0_ sq0) (F_m : Fld Z h0 a0_ sq0 "members" sq3 (.ref wn)) (F_i : Fld Z h0 a0_ sq0 "index" "[I" .null) (F_s : Fld Z h0 a0_ sq0 "size" "I" (.int 0)) (F_c : Fld Z h0 a0_ sq0 "changes" "I" (.int pch)) (E_a1 : Exa Z h0 a1_ sq2) (g0 : n0 ≤ a0_) (E_a2 : Exa Z h0 a2_ "java/lang/Integer") :
    MetW l Z ws (⟨sq0, "put", sq4⟩ : MethodName) prog_14_method_5_code 5 (some (.object sq1)) (Rm 4 3 24 60) #[(.ref a0_), (.ref a1_), (.ref a2_)] h0 (Q9_none_0_0_R Z a0_ a1_ a2_ pch wcs wm wn kn h0 n0) := by
  refine MetW.enter (L0 := #[.val (.ref a0_), .val (.ref a1_), .val (.ref a2_), .unset, .unset]) (plainFor_of_name pn10) (fun m => ef9_none_0_0_R m a0_ a1_ a2_) ?_
  intro p e s m below meth c s₁ hx hby hml hown hnm hret hlk hZ X0 e0
  have N0 := Fr.nil n0
  have K0 : Keep h0 h0 [a0_] := Keep.refl h0 _
  have hSi : s.Since s.vm 0 := (State.WarmedH.refl s).since 0
  have wS : ∀ a ∈ Bundle.stringAtoms, a.before a0 Z = true := own_wS hw
  refine GoW.st (t' := s₁.setTop (mkF m 2 #[.val (.ref a0_), .val (.ref a1_), .val (.ref a2_), .unset, .unset] [(.ref a1_), (.ref a0_)])) (fun target kt => ?_) ?_
  · refine XS.aloadN X0.here hx rfl (hb hby d9_0) rfl rfl ?_
    refine XS.aloadN X0.here hx rfl (hb hby d9_1) rfl rfl ?_
    exact kt
  obtain ⟨b10, T10, h10, k10, X10, e10, E10, hSi, hk10, hZ, hown, st10⟩ := ldcS X0 hx hZ hown (hw _ tw54) wS e0 hSi (Nat.zero_le _) (g := (mkF m 2 #[.val (.ref a0_), .val (.ref a1_), .val (.ref a2_), .unset, .unset] [(.ref a1_), (.ref a0_)])) rfl (hb hby d9_2) (n := 16) (by decide) (by decide) (by decide) (by decide)
  have K11 := K0.ext E10
  have O12 := O0.ext E10
  refine GoW.st st10 ?_
  show GoW _ _ _ _ _ _ _ (T10.setTop (mkF m 4 _ [(.ref b10), (.ref a1_), (.ref a0_)]))
  obtain ⟨_, _, ⟨T13, L13, k13, n13⟩, -, X13, ⟨Lc13, hQ13, l13, y13, z13⟩, st13⟩ := Jvm.LawKit.callS X10 hx (y := (⟨"java/util/Objects", "requireNonNull", "(Ljava/lang/Object;Ljava/lang/String;)Ljava/lang/Object;"⟩ : MethodName)) hown (mvT hZ (hw _ tw57)) (mvT hZ (hw _ tw58)) (mvT hZ (hw _ tw59)) (mvT hZ (hw _ tw60)) (by decide) (backOf (W := 1) (rm10 l Z a0 hw [] a1_ b10 h10 n0 (Nat.le_trans Z0 K11.1) O12  ) hZ (hw _ tw60) (hw _ tw59) (by decide) (by decide)) (g := (mkF m 4 #[.val (.ref a0_), .val (.ref a1_), .val (.ref a2_), .unset, .unset] [(.ref b10), (.ref a1_), (.ref a0_)])) rfl (by rw [hml]; rfl) (argsL := [(.ref a1_), (.ref b10)]) (rest := [(.ref a0_)]) (lenOf pd10 rfl) rfl (by show 2 * 0 + _ ≤ _; exact Nat.le_of_eq rfl) (hb hby d9_4) (fun _ _ => ⟨rfl, e10, (by decide : 2 + 0 ≤ _), (by decide : 20 + 0 ≤ _)⟩)
  dsimp only [Pt.U, Pt.locs, Pt.cells, Pt.slots] at X13 l13 y13 z13 st13 hQ13
  subst l13 y13 z13
  obtain ⟨rfl, Nq13, eq13⟩ := hQ13
  have N13 := Fr.app N0 Nq13
  refine GoW.st st13 ?_
  show GoW _ _ _ _ _ _ _ (T13.setTop (mkF m 7 _ [(.ref a1_), (.ref a0_)]))
  have c14 := E0.ext E10
  have c15 := F_m.ext E10
  have c16 := F_i.ext E10
  have c17 := F_s.ext E10
  have c18 := F_c.ext E10
  have c19 := E_a1.ext E10
  obtain ⟨cq20, q20, q20'⟩ := c14.cell
  obtain ⟨_, _, ⟨T20, L20, k20, n20⟩, -, X20, ⟨Lc20, hQ20, l20, y20, z20⟩, st20⟩ := X13.privateBack hx (y := (⟨sq0, "find", "(Ljava/lang/Object;)I"⟩ : MethodName)) hown (mvT hZ (hw _ tw61)) (mvT hZ (hw _ tw62)) (mvT hZ (own_selp (y := (⟨sq0, "find", "(Ljava/lang/Object;)I"⟩ : MethodName)) (hw _ tw1) (hw _ tw63) (hw _ tw62) (by decide))) (Cond.privateMethod_at (mvP hZ (hw _ tw63) (args := #[]))) (mvT hZ (hw _ tw64)) (by decide) (backOf (W := 0) (rm11_none_0_0 l Z a0 hw [] a0_ a1_ pch wcs wn kn h10 n0 (Nat.le_trans Z0 K11.1) O12 S_CS hcs S_NM E_wn V_wn c14 c15 c16 c17 c18 c19) hZ (hw _ tw64) (hw _ tw2) (by decide) (by decide)) (g := (mkF m 7 #[.val (.ref a0_), .val (.ref a1_), .val (.ref a2_), .unset, .unset] [(.ref a1_), (.ref a0_)])) rfl (by rw [hml]; rfl) (Steps.refl _) (a := a0_) (by rw [eq13]; exact q20) q20' (argsL := [(.ref a1_)]) (rest := []) (lenOf pd11 rfl) rfl (by show 2 * 0 + _ ≤ _; exact Nat.le_of_eq rfl) (hb hby d9_7) (fun _ _ => ⟨rfl, eq13, (by decide : 2 + 0 ≤ _), (by decide : 20 + 0 ≤ _)⟩)
  dsimp only [Pt.U, Pt.locs, Pt.cells, Pt.slots] at X20 l20 y20 z20 st20 hQ20
  subst l20 y20 z20
  obtain ⟨rfl, Nq20, eq20⟩ := hQ20
  have N20 := Fr.app N13 Nq20
  refine GoW.by st20 ?_
  show GoW _ _ _ _ _ _ _ (T20.setTop (mkF m 10 _ [(.int (-1))]))
  refine GoW.st (t' := T20.setTop (mkF m 43 #[.val (.ref a0_), .val (.ref a1_), .val (.ref a2_), .val (.int (-1)), .unset] [(.ref a0_), (.int 2)])) (fun target kt => ?_) ?_
  · refine XS.istoreN X20.here hx rfl (hb hby d9_10) rfl (l' := #[.val (.ref a0_), .val (.ref a1_), .val (.ref a2_), .val (.int (-1)), .unset]) rfl ?_
    refine XS.iloadN X20.here hx rfl (hb hby d9_11) rfl ?_
    refine XS.ifYes X20.here hx rfl (pc0 := 12) (pc' := 41) rfl (hb hby d9_12) rfl ((if0 _ _).trans (tlt (by decide : (-1 : Int32) < (0 : Int32))).1) (by decide) (by decide) ?_
    refine XS.iconst X20.here hx rfl (hb hby d9_41) ?_
    refine XS.aloadN X20.here hx rfl (hb hby d9_42) rfl rfl ?_
    exact kt
  obtain ⟨T21, X21, e21, st21⟩ := getF X20 hx hZ hown (host := "") (Or.inl (hw _ tw68)) Via.refl eq20 c17 (g := (mkF m 43 #[.val (.ref a0_), .val (.ref a1_), .val (.ref a2_), .val (.int (-1)), .unset] [(.ref a0_), (.int 2)])) rfl rfl (hb hby d9_43)
  refine GoW.st st21 ?_
  show GoW _ _ _ _ _ _ _ (T21.setTop (mkF m 46 _ [(.int 0), (.int 2)]))
  refine GoW.st (t' := T21.setTop (mkF m 48 #[.val (.ref a0_), .val (.ref a1_), .val (.ref a2_), .val (.int (-1)), .unset] [(.ref a0_), (.int 0)])) (fun target kt => ?_) ?_
  · refine XS.imul X21.here hx rfl (hb hby d9_46) rfl ?_
    refine XS.aloadN X21.here hx rfl (hb hby d9_47) rfl rfl ?_
    exact kt
  obtain ⟨T22, X22, e22, st22⟩ := getF X21 hx hZ hown (host := "") (Or.inl (hw _ tw16)) Via.refl e21 c15 (g := (mkF m 48 #[.val (.ref a0_), .val (.ref a1_), .val (.ref a2_), .val (.int (-1)), .unset] [(.ref a0_), (.int 0)])) rfl rfl (hb hby d9_48)
  refine GoW.st st22 ?_
  show GoW _ _ _ _ _ _ _ (T22.setTop (mkF m 51 _ [(.ref wn), (.int 0)]))
  obtain ⟨cl23, Ar23, -, S23, M23, -, -⟩ := id (V_wn.ext O12.2)
  refine GoW.st (t' := T22.setTop (mkF m 56 #[.val (.ref a0_), .val (.ref a1_), .val (.ref a2_), .val (.int (-1)), .unset] [(.ref a0_)])) (fun target kt => ?_) ?_
  · refine X22.arraylength hx (by rw [e22]; exact Ar23.1) (State.isArrayOf_alike hZ.alike Ar23.2.1) (g := (mkF m 51 #[.val (.ref a0_), .val (.ref a1_), .val (.ref a2_), .val (.int (-1)), .unset] [(.ref wn), (.int 0)])) rfl rfl (hb hby d9_51) _ ?_
    rw [len_of S23 M23]
    refine XS.icmpNo X22.here hx rfl (hb hby d9_52) rfl (teq (by decide : (0 : Int32) = (0 : Int32))).2 ?_
    refine XS.aloadN X22.here hx rfl (hb hby d9_55) rfl rfl ?_
    exact kt
  obtain ⟨cq24, q24, q24'⟩ := c14.cell
  obtain ⟨_, _, ⟨T24, L24, k24, n24⟩, -, X24, ⟨Lc24, hQ24, l24, y24, z24⟩, st24⟩ := X22.privateBack hx (y := (⟨sq0, "grow", "()V"⟩ : MethodName)) hown (mvT hZ (hw _ tw70)) (mvT hZ (hw _ tw71)) (mvT hZ (own_selp (y := (⟨sq0, "grow", "()V"⟩ : MethodName)) (hw _ tw1) (hw _ tw72) (hw _ tw71) (by decide))) (Cond.privateMethod_at (mvP hZ (hw _ tw72) (args := #[]))) (mvT hZ (hw _ tw73)) (by decide) (backOf (W := 0) (rm12_0 l Z a0 hw [] a0_ wm wn kn pch h10 n0 (Nat.le_trans Z0 K11.1) O12 M_AO E_wn V_wn c14 c15 c16 c17 c18 g0) hZ (hw _ tw73) (hw _ tw2) (by decide) (by decide)) (g := (mkF m 56 #[.val (.ref a0_), .val (.ref a1_), .val (.ref a2_), .val (.int (-1)), .unset] [(.ref a0_)])) rfl (by rw [hml]; rfl) (Steps.refl _) (a := a0_) (by rw [e22]; exact q24) q24' (argsL := []) (rest := []) (lenOf pd0 rfl) rfl (by show 2 * 0 + _ ≤ _; exact Nat.le_of_eq rfl) (hb hby d9_56) (fun _ _ => ⟨rfl, e22, (by decide : 2 + 1 ≤ _), (by decide : 20 + 4 ≤ _)⟩)
  dsimp only [Pt.U, Pt.locs, Pt.cells, Pt.slots] at X24 l24 y24 z24 st24 hQ24
  subst l24 y24 z24
  obtain ⟨b25, k26, rfl, Nq24, Kq24, q27, q28, q29, q30, q31, q32, q33, q34, q35⟩ := hQ24
  have N24 := Fr.app N20 Nq24
  have sz36 : h0.size ≤ b25 := Nat.le_trans K11.1 q27
  have g37 : n0 ≤ b25 := Nat.le_trans Z0 sz36
  have K38 := K11.trans Kq24 (allS (Or.inl (List.mem_of_getElem? (i := 0) rfl)) all0)
  have O39 := O12.keep Kq24 (allS g0 all0)
  refine GoW.by st24 ?_
  show GoW _ _ _ _ _ _ _ (T24.setTop (mkF m 59 _ []))
  refine GoW.st (t' := T24.setTop (mkF m 60 #[.val (.ref a0_), .val (.ref a1_), .val (.ref a2_), .val (.int (-1)), .unset] [(.ref a0_)])) (fun target kt => ?_) ?_
  · refine XS.aloadN X24.here hx rfl (hb hby d9_59) rfl rfl ?_
    exact kt
  obtain ⟨T40, X40, e40, st40⟩ := getF X24 hx hZ hown (host := "") (Or.inl (hw _ tw16)) Via.refl rfl q30 (g := (mkF m 60 #[.val (.ref a0_), .val (.ref a1_), .val (.ref a2_), .val (.int (-1)), .unset] [(.ref a0_)])) rfl rfl (hb hby d9_60)
  refine GoW.st st40 ?_
  show GoW _ _ _ _ _ _ _ (T40.setTop (mkF m 63 _ [(.ref b25)]))
  refine GoW.st (t' := T40.setTop (mkF m 65 #[.val (.ref a0_), .val (.ref a1_), .val (.ref a2_), .val (.int (-1)), .unset] [(.ref a0_), (.int 2), (.ref b25)])) (fun target kt => ?_) ?_
  · refine XS.iconst X40.here hx rfl (hb hby d9_63) ?_
    refine XS.aloadN X40.here hx rfl (hb hby d9_64) rfl rfl ?_
    exact kt
  obtain ⟨T41, X41, e41, st41⟩ := getF X40 hx hZ hown (host := "") (Or.inl (hw _ tw68)) Via.refl e40 q32 (g := (mkF m 65 #[.val (.ref a0_), .val (.ref a1_), .val (.ref a2_), .val (.int (-1)), .unset] [(.ref a0_), (.int 2), (.ref b25)])) rfl rfl (hb hby d9_65)
  refine GoW.st st41 ?_
  show GoW _ _ _ _ _ _ _ (T41.setTop (mkF m 68 _ [(.int 0), (.int 2), (.ref b25)]))
  refine GoW.st (t' := T41.setTop (mkF m 70 #[.val (.ref a0_), .val (.ref a1_), .val (.ref a2_), .val (.int (-1)), .unset] [(.ref a1_), (.int 0), (.ref b25)])) (fun target kt => ?_) ?_
  · refine XS.imul X41.here hx rfl (hb hby d9_68) rfl ?_
    refine XS.aloadN X41.here hx rfl (hb hby d9_69) rfl rfl ?_
    exact kt
  obtain ⟨cl42, Ar42, q42, S42, M42, H42, G42⟩ := id q35
  have hin42 : ¬ ((0 : Int32) < 0 ∨ cl42.slots.size ≤ ((0 : Int32)).toNatClampNeg) := inb_of S42 ⟨by decide, by decide⟩
  have c43 := c19.keep Kq24
  obtain ⟨T42, h42, X42, e42, W42, st42⟩ := stR X41 hx hZ e41 Ar42 (j := (0 : Int32)) hin42 rfl (Sto.ofV Ar42 q42 q28 (Ins.of_exa c43 (hw _ tw101))) (g := (mkF m 70 #[.val (.ref a0_), .val (.ref a1_), .val (.ref a2_), .val (.int (-1)), .unset] [(.ref a1_), (.int 0), (.ref b25)])) rfl rfl (hb hby d9_70)
  have V44 : Arv Z h42 b25 k26 (.object sq1) (4 : Int32) [(.ref a1_), .null, .null, .null] .null := Arv.set Ar42 q42 S42 M42 H42 G42 rfl W42 0 rfl (Nat.le_of_ble_eq_true rfl)
  have K45 := K38.wr W42 (Or.inr sz36)
  have O46 := O39.wr W42 g37
  have N42 := Fr.snoc X42 N24 g37
  refine GoW.st st42 ?_
  show GoW _ _ _ _ _ _ _ (T42.setTop (mkF m 71 _ []))
  refine GoW.st (t' := T42.setTop (mkF m 72 #[.val (.ref a0_), .val (.ref a1_), .val (.ref a2_), .val (.int (-1)), .unset] [(.ref a0_)])) (fun target kt => ?_) ?_
  · refine XS.aloadN X42.here hx rfl (hb hby d9_71) rfl rfl ?_
    exact kt
  have o47 : a0_ < b25 := Nat.lt_of_lt_of_le E0.lt (Nat.le_trans E10.1 q27)
  have ne48 : a0_ ≠ b25 := Nat.ne_of_lt o47
  have c49 := q30.other W42 (Or.inl ne48)
  obtain ⟨T50, X50, e50, st50⟩ := getF X42 hx hZ hown (host := "") (Or.inl (hw _ tw16)) Via.refl e42 c49 (g := (mkF m 72 #[.val (.ref a0_), .val (.ref a1_), .val (.ref a2_), .val (.int (-1)), .unset] [(.ref a0_)])) rfl rfl (hb hby d9_72)
  refine GoW.st st50 ?_
  show GoW _ _ _ _ _ _ _ (T50.setTop (mkF m 75 _ [(.ref b25)]))
  refine GoW.st (t' := T50.setTop (mkF m 77 #[.val (.ref a0_), .val (.ref a1_), .val (.ref a2_), .val (.int (-1)), .unset] [(.ref a0_), (.int 2), (.ref b25)])) (fun target kt => ?_) ?_
  · refine XS.iconst X50.here hx rfl (hb hby d9_75) ?_
    refine XS.aloadN X50.here hx rfl (hb hby d9_76) rfl rfl ?_
    exact kt
  have c51 := q32.other W42 (Or.inl ne48)
  obtain ⟨T52, X52, e52, st52⟩ := getF X50 hx hZ hown (host := "") (Or.inl (hw _ tw68)) Via.refl e50 c51 (g := (mkF m 77 #[.val (.ref a0_), .val (.ref a1_), .val (.ref a2_), .val (.int (-1)), .unset] [(.ref a0_), (.int 2), (.ref b25)])) rfl rfl (hb hby d9_77)
  refine GoW.st st52 ?_
  show GoW _ _ _ _ _ _ _ (T52.setTop (mkF m 80 _ [(.int 0), (.int 2), (.ref b25)]))
  refine GoW.st (t' := T52.setTop (mkF m 84 #[.val (.ref a0_), .val (.ref a1_), .val (.ref a2_), .val (.int (-1)), .unset] [(.ref a2_), (.int 1), (.ref b25)])) (fun target kt => ?_) ?_
  · refine XS.imul X52.here hx rfl (hb hby d9_80) rfl ?_
    refine XS.iconst X52.here hx rfl (hb hby d9_81) ?_
    refine XS.iadd X52.here hx rfl (hb hby d9_82) rfl ?_
    refine XS.aloadN X52.here hx rfl (hb hby d9_83) rfl rfl ?_
    exact kt
  obtain ⟨cl53, Ar53, q53, S53, M53, H53, G53⟩ := id V44
  have hin53 : ¬ ((1 : Int32) < 0 ∨ cl53.slots.size ≤ ((1 : Int32)).toNatClampNeg) := inb_of S53 ⟨by decide, by decide⟩
  have c54 := ((E_a2.ext E10).keep Kq24).wr W42
  obtain ⟨T53, h53, X53, e53, W53, st53⟩ := stR X52 hx hZ e52 Ar53 (j := (1 : Int32)) hin53 rfl (Sto.ofV Ar53 q53 q28 (Ins.of_exa c54 (hw _ tw102))) (g := (mkF m 84 #[.val (.ref a0_), .val (.ref a1_), .val (.ref a2_), .val (.int (-1)), .unset] [(.ref a2_), (.int 1), (.ref b25)])) rfl rfl (hb hby d9_84)
  have V55 : Arv Z h53 b25 k26 (.object sq1) (4 : Int32) [(.ref a1_), (.ref a2_), .null, .null] .null := Arv.set Ar53 q53 S53 M53 H53 G53 rfl W53 1 rfl (Nat.le_of_ble_eq_true rfl)
  have K56 := K45.wr W53 (Or.inr sz36)
  have O57 := O46.wr W53 g37
  have N53 := Fr.snoc X53 N42 g37
  refine GoW.st st53 ?_
  show GoW _ _ _ _ _ _ _ (T53.setTop (mkF m 85 _ []))
  refine GoW.st (t' := T53.setTop (mkF m 87 #[.val (.ref a0_), .val (.ref a1_), .val (.ref a2_), .val (.int (-1)), .unset] [(.ref a0_), (.ref a0_)])) (fun target kt => ?_) ?_
  · refine XS.aloadN X53.here hx rfl (hb hby d9_85) rfl rfl ?_
    refine XS.dup X53.here hx rfl (hb hby d9_86) rfl rfl ?_
    exact kt
  have c58 := c51.other W53 (Or.inl ne48)
  obtain ⟨T59, X59, e59, st59⟩ := getF X53 hx hZ hown (host := "") (Or.inl (hw _ tw68)) Via.refl e53 c58 (g := (mkF m 87 #[.val (.ref a0_), .val (.ref a1_), .val (.ref a2_), .val (.int (-1)), .unset] [(.ref a0_), (.ref a0_)])) rfl rfl (hb hby d9_87)
  refine GoW.st st59 ?_
  show GoW _ _ _ _ _ _ _ (T59.setTop (mkF m 90 _ [(.int 0), (.ref a0_)]))
  refine GoW.st (t' := T59.setTop (mkF m 92 #[.val (.ref a0_), .val (.ref a1_), .val (.ref a2_), .val (.int (-1)), .unset] [(.int 1), (.ref a0_)])) (fun target kt => ?_) ?_
  · refine XS.iconst X59.here hx rfl (hb hby d9_90) ?_
    refine XS.iadd X59.here hx rfl (hb hby d9_91) rfl ?_
    exact kt
  have c60 := (q29.wr W42).wr W53
  obtain ⟨T61, h61, X61, e61, W61, st61⟩ := putF X59 hx hZ hown (host := "") (Or.inl (hw _ tw68)) Via.refl e59 c58 c60 (Or.inl (hw _ tw69)) (hw _ tw1) (ty := .int) (by decide) rfl rfl (g := (mkF m 92 #[.val (.ref a0_), .val (.ref a1_), .val (.ref a2_), .val (.int (-1)), .unset] [(.int 1), (.ref a0_)])) rfl rfl (hb hby d9_92)
  have F62 : Fld Z h61 a0_ sq0 "size" "I" (.int 1) := c58.same W61
  have K63 := K56.wr W61 (Or.inl (List.mem_of_getElem? (i := 0) rfl))
  have O64 := O57.wr W61 g0
  have N61 := Fr.snoc X61 N53 g0
  refine GoW.st st61 ?_
  show GoW _ _ _ _ _ _ _ (T61.setTop (mkF m 95 _ []))
  refine GoW.st (t' := T61.setTop (mkF m 97 #[.val (.ref a0_), .val (.ref a1_), .val (.ref a2_), .val (.int (-1)), .unset] [(.ref a0_), (.ref a0_)])) (fun target kt => ?_) ?_
  · refine XS.aloadN X61.here hx rfl (hb hby d9_95) rfl rfl ?_
    refine XS.dup X61.here hx rfl (hb hby d9_96) rfl rfl ?_
    exact kt
  have c65 := ((q33.other W42 (Or.inl ne48)).other W53 (Or.inl ne48)).other W61 (Or.inr (slot_ne (Or.inl (hw _ tw104)) (Or.inl (hw _ tw69)) (by decide) (t := .int) (t' := .int) (by decide) (by decide)))
  obtain ⟨T66, X66, e66, st66⟩ := getF X61 hx hZ hown (host := "") (Or.inl (hw _ tw103)) Via.refl e61 c65 (g := (mkF m 97 #[.val (.ref a0_), .val (.ref a1_), .val (.ref a2_), .val (.int (-1)), .unset] [(.ref a0_), (.ref a0_)])) rfl rfl (hb hby d9_97)
  refine GoW.st st66 ?_
  show GoW _ _ _ _ _ _ _ (T66.setTop (mkF m 100 _ [(.int pch), (.ref a0_)]))
  refine GoW.st (t' := T66.setTop (mkF m 102 #[.val (.ref a0_), .val (.ref a1_), .val (.ref a2_), .val (.int (-1)), .unset] [(.int (pch + (1 : Int32))), (.ref a0_)])) (fun target kt => ?_) ?_
  · refine XS.iconst X66.here hx rfl (hb hby d9_100) ?_
    refine XS.iadd X66.here hx rfl (hb hby d9_101) rfl ?_
    exact kt
  have c67 := c60.wr W61
  obtain ⟨T68, h68, X68, e68, W68, st68⟩ := putF X66 hx hZ hown (host := "") (Or.inl (hw _ tw103)) Via.refl e66 c65 c67 (Or.inl (hw _ tw104)) (hw _ tw1) (ty := .int) (by decide) rfl rfl (g := (mkF m 102 #[.val (.ref a0_), .val (.ref a1_), .val (.ref a2_), .val (.int (-1)), .unset] [(.int (pch + (1 : Int32))), (.ref a0_)])) rfl rfl (hb hby d9_102)
  have F69 : Fld Z h68 a0_ sq0 "changes" "I" (.int (pch + (1 : Int32))) := c65.same W68
  have K70 := K63.wr W68 (Or.inl (List.mem_of_getElem? (i := 0) rfl))
  have O71 := O64.wr W68 g0
  have N68 := Fr.snoc X68 N61 g0
  refine GoW.st st68 ?_
  show GoW _ _ _ _ _ _ _ (T68.setTop (mkF m 105 _ []))
  refine GoW.st (t' := T68.setTop (mkF m 106 #[.val (.ref a0_), .val (.ref a1_), .val (.ref a2_), .val (.int (-1)), .unset] [(.ref a0_)])) (fun target kt => ?_) ?_
  · refine XS.aloadN X68.here hx rfl (hb hby d9_105) rfl rfl ?_
    exact kt
  have c72 := (((q31.other W42 (Or.inl ne48)).other W53 (Or.inl ne48)).other W61 (Or.inr (slot_ne (Or.inl (hw _ tw67)) (Or.inl (hw _ tw69)) (by decide) (t := (.array .int)) (t' := .int) (by decide) (by decide)))).other W68 (Or.inr (slot_ne (Or.inl (hw _ tw67)) (Or.inl (hw _ tw104)) (by decide) (t := (.array .int)) (t' := .int) (by decide) (by decide)))
  obtain ⟨T73, X73, e73, st73⟩ := getF X68 hx hZ hown (host := "") (Or.inl (hw _ tw66)) Via.refl e68 c72 (g := (mkF m 106 #[.val (.ref a0_), .val (.ref a1_), .val (.ref a2_), .val (.int (-1)), .unset] [(.ref a0_)])) rfl rfl (hb hby d9_106)
  refine GoW.st st73 ?_
  show GoW _ _ _ _ _ _ _ (T73.setTop (mkF m 109 _ [.null]))
  refine GoW.st (t' := T73.setTop (mkF m 126 #[.val (.ref a0_), .val (.ref a1_), .val (.ref a2_), .val (.int (-1)), .unset] [(.ref a0_)])) (fun target kt => ?_) ?_
  · refine XS.ifnullYes X73.here hx rfl (pc0 := 109) (pc' := 125) rfl (hb hby d9_109) rfl (by decide) (by decide) ?_
    refine XS.aloadN X73.here hx rfl (hb hby d9_125) rfl rfl ?_
    exact kt
  have c74 := F62.other W68 (Or.inr (slot_ne (Or.inl (hw _ tw69)) (Or.inl (hw _ tw104)) (by decide) (t := .int) (t' := .int) (by decide) (by decide)))
  obtain ⟨T75, X75, e75, st75⟩ := getF X73 hx hZ hown (host := "") (Or.inl (hw _ tw68)) Via.refl e73 c74 (g := (mkF m 126 #[.val (.ref a0_), .val (.ref a1_), .val (.ref a2_), .val (.int (-1)), .unset] [(.ref a0_)])) rfl rfl (hb hby d9_126)
  refine GoW.st st75 ?_
  show GoW _ _ _ _ _ _ _ (T75.setTop (mkF m 129 _ [(.int 1)]))
  refine GoW.st (t' := T75.setTop (mkF m 139 #[.val (.ref a0_), .val (.ref a1_), .val (.ref a2_), .val (.int (-1)), .unset] [.null])) (fun target kt => ?_) ?_
  · refine XS.bipush X75.here hx rfl (hb hby d9_129) ?_
    refine XS.icmpYes X75.here hx rfl (pc0 := 131) (pc' := 138) rfl (hb hby d9_131) rfl (flt (by decide : ¬ ((8 : Int32) < (1 : Int32)))).2.2.2 (by decide) (by decide) ?_
    refine XS.aconstNull X75.here hx rfl (hb hby d9_138) ?_
    exact kt
  have c76 := c67.wr W68
  have c77 := ((c49.other W53 (Or.inl ne48)).other W61 (Or.inr (slot_ne (Or.inl (hw _ tw17)) (Or.inl (hw _ tw69)) (by decide) (t := (.array (.object sq1))) (t' := .int) (by decide) (by decide)))).other W68 (Or.inr (slot_ne (Or.inl (hw _ tw17)) (Or.inl (hw _ tw104)) (by decide) (t := (.array (.object sq1))) (t' := .int) (by decide) (by decide)))
  have c78 := (((q34.wr W42).wr W53).wr W61).wr W68
  have c79 := (V55.other W61 (Ne.symm ne48)).other W68 (Ne.symm ne48)
  refine GoW.ret X75 hSi (by rw [e75]; exact (Nat.le_trans hk10 (Nat.le_trans (Nat.le_trans (Nat.le_trans (Nat.le_trans Kq24.1 (Keep.of_wr W42).1) (Keep.of_wr W53).1) (Keep.of_wr W61).1) (Keep.of_wr W68).1))) (v := some .null) (fun h => by rw [hret] at h; cases h) hlk (fun fs hr => retR X75 hx hret rfl rfl (hb hby d9_139) hr) ?_ (by decide) (by decide)
  show Q9_none_0_0_R Z a0_ a1_ a2_ pch wcs wm wn kn h0 n0 _ T75.heap _
  rw [e75]
  exact ⟨b25, k26, rfl, N68, K70, sz36, (by first | assumption | decide | omega), c76, c77, c72, c74, F69, c78, c79⟩
theorem d9_15 : decode prog_14_method_5_code 15 = .ok (.aload_n 0, 1) := by decide +kernel
theorem d9_16 : decode prog_14_method_5_code 16 = .ok (.getfield 13, 3) := by decide +kernel
theorem d9_19 : decode prog_14_method_5_code 19 = .ok (.iconst 2, 1) := by decide +kernel
theorem d9_20 : decode prog_14_method_5_code 20 = .ok (.iload_n 3, 1) := by decide +kernel
theorem d9_21 : decode prog_14_method_5_code 21 = .ok (.imul, 1) := by decide +kernel
theorem d9_22 : decode prog_14_method_5_code 22 = .ok (.iconst 1, 1) := by decide +kernel
theorem d9_23 : decode prog_14_method_5_code 23 = .ok (.iadd, 1) := by decide +kernel
theorem d9_24 : decode prog_14_method_5_code 24 = .ok (.aaload, 1) := by decide +kernel
theorem d9_25 : decode prog_14_method_5_code 25 = .ok (.astore 4, 2) := by decide +kernel
theorem d9_27 : decode prog_14_method_5_code 27 = .ok (.aload_n 0, 1) := by decide +kernel
theorem d9_28 : decode prog_14_method_5_code 28 = .ok (.getfield 13, 3) := by decide +kernel
theorem d9_31 : decode prog_14_method_5_code 31 = .ok (.iconst 2, 1) := by decide +kernel
theorem d9_32 : decode prog_14_method_5_code 32 = .ok (.iload_n 3, 1) := by decide +kernel
theorem d9_33 : decode prog_14_method_5_code 33 = .ok (.imul, 1) := by decide +kernel
theorem d9_34 : decode prog_14_method_5_code 34 = .ok (.iconst 1, 1) := by decide +kernel
theorem d9_35 : decode prog_14_method_5_code 35 = .ok (.iadd, 1) := by decide +kernel
theorem d9_36 : decode prog_14_method_5_code 36 = .ok (.aload_n 2, 1) := by decide +kernel
theorem d9_37 : decode prog_14_method_5_code 37 = .ok (.aastore, 1) := by decide +kernel
theorem d9_38 : decode prog_14_method_5_code 38 = .ok (.aload 4, 2) := by decide +kernel
theorem d9_40 : decode prog_14_method_5_code 40 = .ok (.areturn, 1) := by decide +kernel
theorem ef9_eq_1_4_R (m : MethodId) (x0 : Addr) (x1 : Addr) (x2 : Addr) : entryFrame m #[(.ref x0), (.ref x1), (.ref x2)] 5 = mkF m 0 #[.val (.ref x0), .val (.ref x1), .val (.ref x2), .unset, .unset] [] := by first | (simp [entryFrame, mkF, argsToLocals, Value.category]; done) | rfl
def Q9_eq_1_4_R (Z : State) (a0_ : Addr) (a1_ : Addr) (a2_ : Addr) (pch : Int32) (wcs : Int32) (wm : Addr) (am : Addr) (km : ClassId) (y0 : Addr) (u0 : Value) (vn : Addr) (kx : ClassId) (xn : Int32) (v0 : Addr) (k0 : ClassId) (x0 : Int32) (h0 : Heap) (n0 : Nat) (v : Option Value) (h : Heap) (L : List Loc) : Prop := v = some u0 ∧ Fr n0 L ∧ Keep h0 h [am] ∧ Arv Z h am km (.object sq1) (4 : Int32) [(.ref y0), (.ref a2_), .null, .null] .null
theorem rm9_eq_1_4_R (l : Launch) (Z : State) (a0 : Array Value) (hw : ∀ d ∈ tables_1, d.before a0 Z = true) (ws : List Jvm.Cond) (a0_ : Addr) (a1_ : Addr) (a2_ : Addr) (pch : Int32) (wcs : Int32) (wm : Addr) (am : Addr) (km : ClassId) (y0 : Addr) (u0 : Value) (vn : Addr) (kx : ClassId) (xn : Int32) (v0 : Addr) (k0 : ClassId) (x0 : Int32) (h0 : Heap) (n0 : Nat) (Z0 : n0 ≤ h0.size) (O0 : Old Z n0 h0) (S_CS : Sta Z Z.heap sq2 "COMPACT_STRINGS" "Z" (.int wcs)) (hcs : ¬ (wcs = (0 : Int32))) (M_AO : MirM Z sq3 wm) (E0 : Exa Z h0 a0_ sq0) (F_m : Fld Z h0 a0_ sq0 "members" sq3 (.ref am)) (F_i : Fld Z h0 a0_ sq0 "index" "[I" .null) (F_s : Fld Z h0 a0_ sq0 "size" "I" (.int 1)) (F_c : Fld Z h0 a0_ sq0 "changes" "I" (.int pch)) (E_m : Exa Z h0 am sq3) (V_m : Arv Z h0 am km (.object sq1) (4 : Int32) [(.ref y0), u0, .null, .null] .null) (E_a1_ : Exa Z h0 a1_ sq2) (Fv_a1_ : Fld Z h0 a1_ sq2 "value" "[B" (.ref vn)) (Fc_a1_ : Fld Z h0 a1_ sq2 "coder" "B" (.int 0)) (V_a1 : Arv Z h0 vn kx .byte (1 : Int32) [(.int xn)] (.int 0)) (E_y0 : Exa Z h0 y0 sq2) (Fv_y0 : Fld Z h0 y0 sq2 "value" "[B" (.ref v0)) (Fc_y0 : Fld Z h0 y0 sq2 "coder" "B" (.int 0)) (V_y0 : Arv Z h0 v0 k0 .byte (1 : Int32) [(.int x0)] (.int 0)) (ne0 : a1_ ≠ y0) (g0 : n0 ≤ a0_) (gm : n0 ≤ am) (ov : Ovr Z km sq1) (nem : a0_ ≠ am) (E_a2 : Exa Z h0 a2_ "java/lang/Integer") (hu0 : u0.isRef = true) (hcd0 : xn = x0) :
    MetW l Z ws (⟨sq0, "put", sq4⟩ : MethodName) prog_14_method_5_code 5 (some (.object sq1)) (Rm 3 2 20 44) #[(.ref a0_), (.ref a1_), (.ref a2_)] h0 (Q9_eq_1_4_R Z a0_ a1_ a2_ pch wcs wm am km y0 u0 vn kx xn v0 k0 x0 h0 n0) := by
  refine MetW.enter (L0 := #[.val (.ref a0_), .val (.ref a1_), .val (.ref a2_), .unset, .unset]) (plainFor_of_name pn10) (fun m => ef9_eq_1_4_R m a0_ a1_ a2_) ?_
  intro p e s m below meth c s₁ hx hby hml hown hnm hret hlk hZ X0 e0
  have N0 := Fr.nil n0
  have K0 : Keep h0 h0 [am] := Keep.refl h0 _
  have hSi : s.Since s.vm 0 := (State.WarmedH.refl s).since 0
  have wS : ∀ a ∈ Bundle.stringAtoms, a.before a0 Z = true := own_wS hw
  refine GoW.st (t' := s₁.setTop (mkF m 2 #[.val (.ref a0_), .val (.ref a1_), .val (.ref a2_), .unset, .unset] [(.ref a1_), (.ref a0_)])) (fun target kt => ?_) ?_
  · refine XS.aloadN X0.here hx rfl (hb hby d9_0) rfl rfl ?_
    refine XS.aloadN X0.here hx rfl (hb hby d9_1) rfl rfl ?_
    exact kt
  obtain ⟨b10, T10, h10, k10, X10, e10, E10, hSi, hk10, hZ, hown, st10⟩ := ldcS X0 hx hZ hown (hw _ tw54) wS e0 hSi (Nat.zero_le _) (g := (mkF m 2 #[.val (.ref a0_), .val (.ref a1_), .val (.ref a2_), .unset, .unset] [(.ref a1_), (.ref a0_)])) rfl (hb hby d9_2) (n := 16) (by decide) (by decide) (by decide) (by decide)
  have K11 := K0.ext E10
  have O12 := O0.ext E10
  refine GoW.st st10 ?_
  show GoW _ _ _ _ _ _ _ (T10.setTop (mkF m 4 _ [(.ref b10), (.ref a1_), (.ref a0_)]))
  obtain ⟨_, _, ⟨T13, L13, k13, n13⟩, -, X13, ⟨Lc13, hQ13, l13, y13, z13⟩, st13⟩ := Jvm.LawKit.callS X10 hx (y := (⟨"java/util/Objects", "requireNonNull", "(Ljava/lang/Object;Ljava/lang/String;)Ljava/lang/Object;"⟩ : MethodName)) hown (mvT hZ (hw _ tw57)) (mvT hZ (hw _ tw58)) (mvT hZ (hw _ tw59)) (mvT hZ (hw _ tw60)) (by decide) (backOf (W := 1) (rm10 l Z a0 hw [] a1_ b10 h10 n0 (Nat.le_trans Z0 K11.1) O12  ) hZ (hw _ tw60) (hw _ tw59) (by decide) (by decide)) (g := (mkF m 4 #[.val (.ref a0_), .val (.ref a1_), .val (.ref a2_), .unset, .unset] [(.ref b10), (.ref a1_), (.ref a0_)])) rfl (by rw [hml]; rfl) (argsL := [(.ref a1_), (.ref b10)]) (rest := [(.ref a0_)]) (lenOf pd10 rfl) rfl (by show 2 * 0 + _ ≤ _; exact Nat.le_of_eq rfl) (hb hby d9_4) (fun _ _ => ⟨rfl, e10, (by decide : 2 + 0 ≤ _), (by decide : 20 + 0 ≤ _)⟩)
  dsimp only [Pt.U, Pt.locs, Pt.cells, Pt.slots] at X13 l13 y13 z13 st13 hQ13
  subst l13 y13 z13
  obtain ⟨rfl, Nq13, eq13⟩ := hQ13
  have N13 := Fr.app N0 Nq13
  refine GoW.st st13 ?_
  show GoW _ _ _ _ _ _ _ (T13.setTop (mkF m 7 _ [(.ref a1_), (.ref a0_)]))
  have c14 := E0.ext E10
  have c15 := F_m.ext E10
  have c16 := F_i.ext E10
  have c17 := F_s.ext E10
  have c18 := F_c.ext E10
  have c19 := E_m.ext E10
  have c20 := V_m.ext E10
  have c21 := E_a1_.ext E10
  have c22 := Fv_a1_.ext E10
  have c23 := Fc_a1_.ext E10
  have c24 := V_a1.ext E10
  have c25 := E_y0.ext E10
  have c26 := Fv_y0.ext E10
  have c27 := Fc_y0.ext E10
  have c28 := V_y0.ext E10
  obtain ⟨cq29, q29, q29'⟩ := c14.cell
  obtain ⟨_, _, ⟨T29, L29, k29, n29⟩, -, X29, ⟨Lc29, hQ29, l29, y29, z29⟩, st29⟩ := X13.privateBack hx (y := (⟨sq0, "find", "(Ljava/lang/Object;)I"⟩ : MethodName)) hown (mvT hZ (hw _ tw61)) (mvT hZ (hw _ tw62)) (mvT hZ (own_selp (y := (⟨sq0, "find", "(Ljava/lang/Object;)I"⟩ : MethodName)) (hw _ tw1) (hw _ tw63) (hw _ tw62) (by decide))) (Cond.privateMethod_at (mvP hZ (hw _ tw63) (args := #[]))) (mvT hZ (hw _ tw64)) (by decide) (backOf (W := 0) (rm11_eq_1_4 l Z a0 hw [] a0_ a1_ pch wcs am km y0 u0 vn kx xn v0 k0 x0 h10 n0 (Nat.le_trans Z0 K11.1) O12 S_CS hcs c14 c15 c16 c17 c18 c19 c20 c21 c22 c23 c24 c25 c26 c27 c28 ne0 hcd0) hZ (hw _ tw64) (hw _ tw2) (by decide) (by decide)) (g := (mkF m 7 #[.val (.ref a0_), .val (.ref a1_), .val (.ref a2_), .unset, .unset] [(.ref a1_), (.ref a0_)])) rfl (by rw [hml]; rfl) (Steps.refl _) (a := a0_) (by rw [eq13]; exact q29) q29' (argsL := [(.ref a1_)]) (rest := []) (lenOf pd11 rfl) rfl (by show 2 * 0 + _ ≤ _; exact Nat.le_of_eq rfl) (hb hby d9_7) (fun _ _ => ⟨rfl, eq13, (by decide : 2 + 0 ≤ _), (by decide : 20 + 0 ≤ _)⟩)
  dsimp only [Pt.U, Pt.locs, Pt.cells, Pt.slots] at X29 l29 y29 z29 st29 hQ29
  subst l29 y29 z29
  obtain ⟨rfl, Nq29, eq29⟩ := hQ29
  have N29 := Fr.app N13 Nq29
  refine GoW.by st29 ?_
  show GoW _ _ _ _ _ _ _ (T29.setTop (mkF m 10 _ [(.int 0)]))
  refine GoW.st (t' := T29.setTop (mkF m 16 #[.val (.ref a0_), .val (.ref a1_), .val (.ref a2_), .val (.int 0), .unset] [(.ref a0_)])) (fun target kt => ?_) ?_
  · refine XS.istoreN X29.here hx rfl (hb hby d9_10) rfl (l' := #[.val (.ref a0_), .val (.ref a1_), .val (.ref a2_), .val (.int 0), .unset]) rfl ?_
    refine XS.iloadN X29.here hx rfl (hb hby d9_11) rfl ?_
    refine XS.ifNo X29.here hx rfl (hb hby d9_12) rfl ((if0 _ _).trans (flt (by decide : ¬ ((0 : Int32) < (0 : Int32)))).1) ?_
    refine XS.aloadN X29.here hx rfl (hb hby d9_15) rfl rfl ?_
    exact kt
  obtain ⟨T30, X30, e30, st30⟩ := getF X29 hx hZ hown (host := "") (Or.inl (hw _ tw16)) Via.refl eq29 c15 (g := (mkF m 16 #[.val (.ref a0_), .val (.ref a1_), .val (.ref a2_), .val (.int 0), .unset] [(.ref a0_)])) rfl rfl (hb hby d9_16)
  refine GoW.st st30 ?_
  show GoW _ _ _ _ _ _ _ (T30.setTop (mkF m 19 _ [(.ref am)]))
  obtain ⟨cl31, Ar31, -, S31, M31, H31, -⟩ := id c20
  have hin31 : ¬ ((1 : Int32) < 0 ∨ cl31.slots.size ≤ ((1 : Int32)).toNatClampNeg) := inb_of S31 ⟨by decide, by decide⟩
  have hat31 : cl31.slots[((1 : Int32)).toNatClampNeg]? = some u0 := H31.at hin31 rfl
  refine GoW.st (t' := T30.setTop (mkF m 28 #[.val (.ref a0_), .val (.ref a1_), .val (.ref a2_), .val (.int 0), .val u0] [(.ref a0_)])) (fun target kt => ?_) ?_
  · refine XS.iconst X30.here hx rfl (hb hby d9_19) ?_
    refine XS.iloadN X30.here hx rfl (hb hby d9_20) rfl ?_
    refine XS.imul X30.here hx rfl (hb hby d9_21) rfl ?_
    refine XS.iconst X30.here hx rfl (hb hby d9_22) ?_
    refine XS.iadd X30.here hx rfl (hb hby d9_23) rfl ?_
    refine X30.aaload hx (j := (1 : Int32)) (v := u0) (by rw [e30]; exact Ar31.1) (State.isArrayOf_alike hZ.alike Ar31.2.1) rfl Ar31.2.2 hin31 hat31 (g := (mkF m 24 #[.val (.ref a0_), .val (.ref a1_), .val (.ref a2_), .val (.int 0), .unset] [(.int 1), (.ref am)])) rfl rfl (hb hby d9_24) _ ?_
    refine XS.astore X30.here hx rfl (hb hby d9_25) rfl hu0 (l' := #[.val (.ref a0_), .val (.ref a1_), .val (.ref a2_), .val (.int 0), .val u0]) (by cases u0 <;> first | rfl | exact absurd hu0 Bool.false_ne_true) ?_
    refine XS.aloadN X30.here hx rfl (hb hby d9_27) rfl rfl ?_
    exact kt
  obtain ⟨T32, X32, e32, st32⟩ := getF X30 hx hZ hown (host := "") (Or.inl (hw _ tw16)) Via.refl e30 c15 (g := (mkF m 28 #[.val (.ref a0_), .val (.ref a1_), .val (.ref a2_), .val (.int 0), .val u0] [(.ref a0_)])) rfl rfl (hb hby d9_28)
  refine GoW.st st32 ?_
  show GoW _ _ _ _ _ _ _ (T32.setTop (mkF m 31 _ [(.ref am)]))
  refine GoW.st (t' := T32.setTop (mkF m 37 #[.val (.ref a0_), .val (.ref a1_), .val (.ref a2_), .val (.int 0), .val u0] [(.ref a2_), (.int 1), (.ref am)])) (fun target kt => ?_) ?_
  · refine XS.iconst X32.here hx rfl (hb hby d9_31) ?_
    refine XS.iloadN X32.here hx rfl (hb hby d9_32) rfl ?_
    refine XS.imul X32.here hx rfl (hb hby d9_33) rfl ?_
    refine XS.iconst X32.here hx rfl (hb hby d9_34) ?_
    refine XS.iadd X32.here hx rfl (hb hby d9_35) rfl ?_
    refine XS.aloadN X32.here hx rfl (hb hby d9_36) rfl rfl ?_
    exact kt
  obtain ⟨cl33, Ar33, q33, S33, M33, H33, G33⟩ := id c20
  have hin33 : ¬ ((1 : Int32) < 0 ∨ cl33.slots.size ≤ ((1 : Int32)).toNatClampNeg) := inb_of S33 ⟨by decide, by decide⟩
  have c34 := E_a2.ext E10
  obtain ⟨T33, h33, X33, e33, W33, st33⟩ := stR X32 hx hZ e32 Ar33 (j := (1 : Int32)) hin33 rfl (Sto.ofV Ar33 q33 ov (Ins.of_exa c34 (hw _ tw102))) (g := (mkF m 37 #[.val (.ref a0_), .val (.ref a1_), .val (.ref a2_), .val (.int 0), .val u0] [(.ref a2_), (.int 1), (.ref am)])) rfl rfl (hb hby d9_37)
  have V35 : Arv Z h33 am km (.object sq1) (4 : Int32) [(.ref y0), (.ref a2_), .null, .null] .null := Arv.set Ar33 q33 S33 M33 H33 G33 rfl W33 1 rfl (Nat.le_of_ble_eq_true rfl)
  have K36 := K11.wr W33 (Or.inl (List.mem_of_getElem? (i := 0) rfl))
  have O37 := O12.wr W33 gm
  have N33 := Fr.snoc X33 N29 gm
  refine GoW.st st33 ?_
  show GoW _ _ _ _ _ _ _ (T33.setTop (mkF m 38 _ []))
  refine GoW.st (t' := T33.setTop (mkF m 40 #[.val (.ref a0_), .val (.ref a1_), .val (.ref a2_), .val (.int 0), .val u0] [u0])) (fun target kt => ?_) ?_
  · refine XS.aload X33.here hx rfl (hb hby d9_38) rfl hu0 ?_
    exact kt
  refine GoW.ret X33 hSi (by rw [e33]; exact (Nat.le_trans hk10 (Keep.of_wr W33).1)) (v := some u0) (fun h => by rw [hret] at h; cases h) hlk (fun fs hr => retR X33 hx hret rfl hu0 (hb hby d9_40) hr) ?_ (by decide) (by decide)
  show Q9_eq_1_4_R Z a0_ a1_ a2_ pch wcs wm am km y0 u0 vn kx xn v0 k0 x0 h0 n0 _ T33.heap _
  rw [e33]
  exact ⟨rfl, N33, K36, V35⟩
theorem ef9_ne_1_4_R (m : MethodId) (x0 : Addr) (x1 : Addr) (x2 : Addr) : entryFrame m #[(.ref x0), (.ref x1), (.ref x2)] 5 = mkF m 0 #[.val (.ref x0), .val (.ref x1), .val (.ref x2), .unset, .unset] [] := by first | (simp [entryFrame, mkF, argsToLocals, Value.category]; done) | rfl
def Q9_ne_1_4_R (Z : State) (a0_ : Addr) (a1_ : Addr) (a2_ : Addr) (pch : Int32) (wcs : Int32) (wm : Addr) (am : Addr) (km : ClassId) (y0 : Addr) (u0 : Value) (vn : Addr) (kx : ClassId) (xn : Int32) (v0 : Addr) (k0 : ClassId) (x0 : Int32) (h0 : Heap) (n0 : Nat) (v : Option Value) (h : Heap) (L : List Loc) : Prop := v = some .null ∧ Fr n0 L ∧ Keep h0 h [a0_, am] ∧ Exa Z h a0_ sq0 ∧ Fld Z h a0_ sq0 "members" sq3 (.ref am) ∧ Fld Z h a0_ sq0 "index" "[I" .null ∧ Fld Z h a0_ sq0 "size" "I" (.int 2) ∧ Fld Z h a0_ sq0 "changes" "I" (.int (pch + (1 : Int32))) ∧ Exa Z h am sq3 ∧ Arv Z h am km (.object sq1) (4 : Int32) [(.ref y0), u0, (.ref a1_), (.ref a2_)] .null
theorem rm9_ne_1_4_R (l : Launch) (Z : State) (a0 : Array Value) (hw : ∀ d ∈ tables_1, d.before a0 Z = true) (ws : List Jvm.Cond) (a0_ : Addr) (a1_ : Addr) (a2_ : Addr) (pch : Int32) (wcs : Int32) (wm : Addr) (am : Addr) (km : ClassId) (y0 : Addr) (u0 : Value) (vn : Addr) (kx : ClassId) (xn : Int32) (v0 : Addr) (k0 : ClassId) (x0 : Int32) (h0 : Heap) (n0 : Nat) (Z0 : n0 ≤ h0.size) (O0 : Old Z n0 h0) (S_CS : Sta Z Z.heap sq2 "COMPACT_STRINGS" "Z" (.int wcs)) (hcs : ¬ (wcs = (0 : Int32))) (M_AO : MirM Z sq3 wm) (E0 : Exa Z h0 a0_ sq0) (F_m : Fld Z h0 a0_ sq0 "members" sq3 (.ref am)) (F_i : Fld Z h0 a0_ sq0 "index" "[I" .null) (F_s : Fld Z h0 a0_ sq0 "size" "I" (.int 1)) (F_c : Fld Z h0 a0_ sq0 "changes" "I" (.int pch)) (E_m : Exa Z h0 am sq3) (V_m : Arv Z h0 am km (.object sq1) (4 : Int32) [(.ref y0), u0, .null, .null] .null) (E_a1_ : Exa Z h0 a1_ sq2) (Fv_a1_ : Fld Z h0 a1_ sq2 "value" "[B" (.ref vn)) (Fc_a1_ : Fld Z h0 a1_ sq2 "coder" "B" (.int 0)) (V_a1 : Arv Z h0 vn kx .byte (1 : Int32) [(.int xn)] (.int 0)) (E_y0 : Exa Z h0 y0 sq2) (Fv_y0 : Fld Z h0 y0 sq2 "value" "[B" (.ref v0)) (Fc_y0 : Fld Z h0 y0 sq2 "coder" "B" (.int 0)) (V_y0 : Arv Z h0 v0 k0 .byte (1 : Int32) [(.int x0)] (.int 0)) (ne0 : a1_ ≠ y0) (g0 : n0 ≤ a0_) (gm : n0 ≤ am) (ov : Ovr Z km sq1) (nem : a0_ ≠ am) (E_a2 : Exa Z h0 a2_ "java/lang/Integer") (hcd0 : ¬ (xn = x0)) :
    MetW l Z ws (⟨sq0, "put", sq4⟩ : MethodName) prog_14_method_5_code 5 (some (.object sq1)) (Rm 3 2 20 44) #[(.ref a0_), (.ref a1_), (.ref a2_)] h0 (Q9_ne_1_4_R Z a0_ a1_ a2_ pch wcs wm am km y0 u0 vn kx xn v0 k0 x0 h0 n0) := by
  refine MetW.enter (L0 := #[.val (.ref a0_), .val (.ref a1_), .val (.ref a2_), .unset, .unset]) (plainFor_of_name pn10) (fun m => ef9_ne_1_4_R m a0_ a1_ a2_) ?_
  intro p e s m below meth c s₁ hx hby hml hown hnm hret hlk hZ X0 e0
  have N0 := Fr.nil n0
  have K0 : Keep h0 h0 [a0_, am] := Keep.refl h0 _
  have hSi : s.Since s.vm 0 := (State.WarmedH.refl s).since 0
  have wS : ∀ a ∈ Bundle.stringAtoms, a.before a0 Z = true := own_wS hw
  refine GoW.st (t' := s₁.setTop (mkF m 2 #[.val (.ref a0_), .val (.ref a1_), .val (.ref a2_), .unset, .unset] [(.ref a1_), (.ref a0_)])) (fun target kt => ?_) ?_
  · refine XS.aloadN X0.here hx rfl (hb hby d9_0) rfl rfl ?_
    refine XS.aloadN X0.here hx rfl (hb hby d9_1) rfl rfl ?_
    exact kt
  obtain ⟨b10, T10, h10, k10, X10, e10, E10, hSi, hk10, hZ, hown, st10⟩ := ldcS X0 hx hZ hown (hw _ tw54) wS e0 hSi (Nat.zero_le _) (g := (mkF m 2 #[.val (.ref a0_), .val (.ref a1_), .val (.ref a2_), .unset, .unset] [(.ref a1_), (.ref a0_)])) rfl (hb hby d9_2) (n := 16) (by decide) (by decide) (by decide) (by decide)
  have K11 := K0.ext E10
  have O12 := O0.ext E10
  refine GoW.st st10 ?_
  show GoW _ _ _ _ _ _ _ (T10.setTop (mkF m 4 _ [(.ref b10), (.ref a1_), (.ref a0_)]))
  obtain ⟨_, _, ⟨T13, L13, k13, n13⟩, -, X13, ⟨Lc13, hQ13, l13, y13, z13⟩, st13⟩ := Jvm.LawKit.callS X10 hx (y := (⟨"java/util/Objects", "requireNonNull", "(Ljava/lang/Object;Ljava/lang/String;)Ljava/lang/Object;"⟩ : MethodName)) hown (mvT hZ (hw _ tw57)) (mvT hZ (hw _ tw58)) (mvT hZ (hw _ tw59)) (mvT hZ (hw _ tw60)) (by decide) (backOf (W := 1) (rm10 l Z a0 hw [] a1_ b10 h10 n0 (Nat.le_trans Z0 K11.1) O12  ) hZ (hw _ tw60) (hw _ tw59) (by decide) (by decide)) (g := (mkF m 4 #[.val (.ref a0_), .val (.ref a1_), .val (.ref a2_), .unset, .unset] [(.ref b10), (.ref a1_), (.ref a0_)])) rfl (by rw [hml]; rfl) (argsL := [(.ref a1_), (.ref b10)]) (rest := [(.ref a0_)]) (lenOf pd10 rfl) rfl (by show 2 * 0 + _ ≤ _; exact Nat.le_of_eq rfl) (hb hby d9_4) (fun _ _ => ⟨rfl, e10, (by decide : 2 + 0 ≤ _), (by decide : 20 + 0 ≤ _)⟩)
  dsimp only [Pt.U, Pt.locs, Pt.cells, Pt.slots] at X13 l13 y13 z13 st13 hQ13
  subst l13 y13 z13
  obtain ⟨rfl, Nq13, eq13⟩ := hQ13
  have N13 := Fr.app N0 Nq13
  refine GoW.st st13 ?_
  show GoW _ _ _ _ _ _ _ (T13.setTop (mkF m 7 _ [(.ref a1_), (.ref a0_)]))
  have c14 := E0.ext E10
  have c15 := F_m.ext E10
  have c16 := F_i.ext E10
  have c17 := F_s.ext E10
  have c18 := F_c.ext E10
  have c19 := E_m.ext E10
  have c20 := V_m.ext E10
  have c21 := E_a1_.ext E10
  have c22 := Fv_a1_.ext E10
  have c23 := Fc_a1_.ext E10
  have c24 := V_a1.ext E10
  have c25 := E_y0.ext E10
  have c26 := Fv_y0.ext E10
  have c27 := Fc_y0.ext E10
  have c28 := V_y0.ext E10
  obtain ⟨cq29, q29, q29'⟩ := c14.cell
  obtain ⟨_, _, ⟨T29, L29, k29, n29⟩, -, X29, ⟨Lc29, hQ29, l29, y29, z29⟩, st29⟩ := X13.privateBack hx (y := (⟨sq0, "find", "(Ljava/lang/Object;)I"⟩ : MethodName)) hown (mvT hZ (hw _ tw61)) (mvT hZ (hw _ tw62)) (mvT hZ (own_selp (y := (⟨sq0, "find", "(Ljava/lang/Object;)I"⟩ : MethodName)) (hw _ tw1) (hw _ tw63) (hw _ tw62) (by decide))) (Cond.privateMethod_at (mvP hZ (hw _ tw63) (args := #[]))) (mvT hZ (hw _ tw64)) (by decide) (backOf (W := 0) (rm11_ne_1_4 l Z a0 hw [] a0_ a1_ pch wcs am km y0 u0 vn kx xn v0 k0 x0 h10 n0 (Nat.le_trans Z0 K11.1) O12 S_CS hcs c14 c15 c16 c17 c18 c19 c20 c21 c22 c23 c24 c25 c26 c27 c28 ne0 hcd0) hZ (hw _ tw64) (hw _ tw2) (by decide) (by decide)) (g := (mkF m 7 #[.val (.ref a0_), .val (.ref a1_), .val (.ref a2_), .unset, .unset] [(.ref a1_), (.ref a0_)])) rfl (by rw [hml]; rfl) (Steps.refl _) (a := a0_) (by rw [eq13]; exact q29) q29' (argsL := [(.ref a1_)]) (rest := []) (lenOf pd11 rfl) rfl (by show 2 * 0 + _ ≤ _; exact Nat.le_of_eq rfl) (hb hby d9_7) (fun _ _ => ⟨rfl, eq13, (by decide : 2 + 0 ≤ _), (by decide : 20 + 0 ≤ _)⟩)
  dsimp only [Pt.U, Pt.locs, Pt.cells, Pt.slots] at X29 l29 y29 z29 st29 hQ29
  subst l29 y29 z29
  obtain ⟨rfl, Nq29, eq29⟩ := hQ29
  have N29 := Fr.app N13 Nq29
  refine GoW.by st29 ?_
  show GoW _ _ _ _ _ _ _ (T29.setTop (mkF m 10 _ [(.int (-1))]))
  refine GoW.st (t' := T29.setTop (mkF m 43 #[.val (.ref a0_), .val (.ref a1_), .val (.ref a2_), .val (.int (-1)), .unset] [(.ref a0_), (.int 2)])) (fun target kt => ?_) ?_
  · refine XS.istoreN X29.here hx rfl (hb hby d9_10) rfl (l' := #[.val (.ref a0_), .val (.ref a1_), .val (.ref a2_), .val (.int (-1)), .unset]) rfl ?_
    refine XS.iloadN X29.here hx rfl (hb hby d9_11) rfl ?_
    refine XS.ifYes X29.here hx rfl (pc0 := 12) (pc' := 41) rfl (hb hby d9_12) rfl ((if0 _ _).trans (tlt (by decide : (-1 : Int32) < (0 : Int32))).1) (by decide) (by decide) ?_
    refine XS.iconst X29.here hx rfl (hb hby d9_41) ?_
    refine XS.aloadN X29.here hx rfl (hb hby d9_42) rfl rfl ?_
    exact kt
  obtain ⟨T30, X30, e30, st30⟩ := getF X29 hx hZ hown (host := "") (Or.inl (hw _ tw68)) Via.refl eq29 c17 (g := (mkF m 43 #[.val (.ref a0_), .val (.ref a1_), .val (.ref a2_), .val (.int (-1)), .unset] [(.ref a0_), (.int 2)])) rfl rfl (hb hby d9_43)
  refine GoW.st st30 ?_
  show GoW _ _ _ _ _ _ _ (T30.setTop (mkF m 46 _ [(.int 1), (.int 2)]))
  refine GoW.st (t' := T30.setTop (mkF m 48 #[.val (.ref a0_), .val (.ref a1_), .val (.ref a2_), .val (.int (-1)), .unset] [(.ref a0_), (.int 2)])) (fun target kt => ?_) ?_
  · refine XS.imul X30.here hx rfl (hb hby d9_46) rfl ?_
    refine XS.aloadN X30.here hx rfl (hb hby d9_47) rfl rfl ?_
    exact kt
  obtain ⟨T31, X31, e31, st31⟩ := getF X30 hx hZ hown (host := "") (Or.inl (hw _ tw16)) Via.refl e30 c15 (g := (mkF m 48 #[.val (.ref a0_), .val (.ref a1_), .val (.ref a2_), .val (.int (-1)), .unset] [(.ref a0_), (.int 2)])) rfl rfl (hb hby d9_48)
  refine GoW.st st31 ?_
  show GoW _ _ _ _ _ _ _ (T31.setTop (mkF m 51 _ [(.ref am), (.int 2)]))
  obtain ⟨cl32, Ar32, -, S32, M32, -, -⟩ := id c20
  refine GoW.st (t' := T31.setTop (mkF m 60 #[.val (.ref a0_), .val (.ref a1_), .val (.ref a2_), .val (.int (-1)), .unset] [(.ref a0_)])) (fun target kt => ?_) ?_
  · refine X31.arraylength hx (by rw [e31]; exact Ar32.1) (State.isArrayOf_alike hZ.alike Ar32.2.1) (g := (mkF m 51 #[.val (.ref a0_), .val (.ref a1_), .val (.ref a2_), .val (.int (-1)), .unset] [(.ref am), (.int 2)])) rfl rfl (hb hby d9_51) _ ?_
    rw [len_of S32 M32]
    refine XS.icmpYes X31.here hx rfl (pc0 := 52) (pc' := 59) rfl (hb hby d9_52) rfl (feq (by decide : ¬ ((2 : Int32) = (4 : Int32)))).2 (by decide) (by decide) ?_
    refine XS.aloadN X31.here hx rfl (hb hby d9_59) rfl rfl ?_
    exact kt
  obtain ⟨T33, X33, e33, st33⟩ := getF X31 hx hZ hown (host := "") (Or.inl (hw _ tw16)) Via.refl e31 c15 (g := (mkF m 60 #[.val (.ref a0_), .val (.ref a1_), .val (.ref a2_), .val (.int (-1)), .unset] [(.ref a0_)])) rfl rfl (hb hby d9_60)
  refine GoW.st st33 ?_
  show GoW _ _ _ _ _ _ _ (T33.setTop (mkF m 63 _ [(.ref am)]))
  refine GoW.st (t' := T33.setTop (mkF m 65 #[.val (.ref a0_), .val (.ref a1_), .val (.ref a2_), .val (.int (-1)), .unset] [(.ref a0_), (.int 2), (.ref am)])) (fun target kt => ?_) ?_
  · refine XS.iconst X33.here hx rfl (hb hby d9_63) ?_
    refine XS.aloadN X33.here hx rfl (hb hby d9_64) rfl rfl ?_
    exact kt
  obtain ⟨T34, X34, e34, st34⟩ := getF X33 hx hZ hown (host := "") (Or.inl (hw _ tw68)) Via.refl e33 c17 (g := (mkF m 65 #[.val (.ref a0_), .val (.ref a1_), .val (.ref a2_), .val (.int (-1)), .unset] [(.ref a0_), (.int 2), (.ref am)])) rfl rfl (hb hby d9_65)
  refine GoW.st st34 ?_
  show GoW _ _ _ _ _ _ _ (T34.setTop (mkF m 68 _ [(.int 1), (.int 2), (.ref am)]))
  refine GoW.st (t' := T34.setTop (mkF m 70 #[.val (.ref a0_), .val (.ref a1_), .val (.ref a2_), .val (.int (-1)), .unset] [(.ref a1_), (.int 2), (.ref am)])) (fun target kt => ?_) ?_
  · refine XS.imul X34.here hx rfl (hb hby d9_68) rfl ?_
    refine XS.aloadN X34.here hx rfl (hb hby d9_69) rfl rfl ?_
    exact kt
  obtain ⟨cl35, Ar35, q35, S35, M35, H35, G35⟩ := id c20
  have hin35 : ¬ ((2 : Int32) < 0 ∨ cl35.slots.size ≤ ((2 : Int32)).toNatClampNeg) := inb_of S35 ⟨by decide, by decide⟩
  obtain ⟨T35, h35, X35, e35, W35, st35⟩ := stR X34 hx hZ e34 Ar35 (j := (2 : Int32)) hin35 rfl (Sto.ofV Ar35 q35 ov (Ins.of_exa c21 (hw _ tw101))) (g := (mkF m 70 #[.val (.ref a0_), .val (.ref a1_), .val (.ref a2_), .val (.int (-1)), .unset] [(.ref a1_), (.int 2), (.ref am)])) rfl rfl (hb hby d9_70)
  have V36 : Arv Z h35 am km (.object sq1) (4 : Int32) [(.ref y0), u0, (.ref a1_), .null] .null := Arv.set Ar35 q35 S35 M35 H35 G35 rfl W35 2 rfl (Nat.le_of_ble_eq_true rfl)
  have K37 := K11.wr W35 (Or.inl (List.mem_of_getElem? (i := 1) rfl))
  have O38 := O12.wr W35 gm
  have N35 := Fr.snoc X35 N29 gm
  refine GoW.st st35 ?_
  show GoW _ _ _ _ _ _ _ (T35.setTop (mkF m 71 _ []))
  refine GoW.st (t' := T35.setTop (mkF m 72 #[.val (.ref a0_), .val (.ref a1_), .val (.ref a2_), .val (.int (-1)), .unset] [(.ref a0_)])) (fun target kt => ?_) ?_
  · refine XS.aloadN X35.here hx rfl (hb hby d9_71) rfl rfl ?_
    exact kt
  have c39 := c15.other W35 (Or.inl nem)
  obtain ⟨T40, X40, e40, st40⟩ := getF X35 hx hZ hown (host := "") (Or.inl (hw _ tw16)) Via.refl e35 c39 (g := (mkF m 72 #[.val (.ref a0_), .val (.ref a1_), .val (.ref a2_), .val (.int (-1)), .unset] [(.ref a0_)])) rfl rfl (hb hby d9_72)
  refine GoW.st st40 ?_
  show GoW _ _ _ _ _ _ _ (T40.setTop (mkF m 75 _ [(.ref am)]))
  refine GoW.st (t' := T40.setTop (mkF m 77 #[.val (.ref a0_), .val (.ref a1_), .val (.ref a2_), .val (.int (-1)), .unset] [(.ref a0_), (.int 2), (.ref am)])) (fun target kt => ?_) ?_
  · refine XS.iconst X40.here hx rfl (hb hby d9_75) ?_
    refine XS.aloadN X40.here hx rfl (hb hby d9_76) rfl rfl ?_
    exact kt
  have c41 := c17.other W35 (Or.inl nem)
  obtain ⟨T42, X42, e42, st42⟩ := getF X40 hx hZ hown (host := "") (Or.inl (hw _ tw68)) Via.refl e40 c41 (g := (mkF m 77 #[.val (.ref a0_), .val (.ref a1_), .val (.ref a2_), .val (.int (-1)), .unset] [(.ref a0_), (.int 2), (.ref am)])) rfl rfl (hb hby d9_77)
  refine GoW.st st42 ?_
  show GoW _ _ _ _ _ _ _ (T42.setTop (mkF m 80 _ [(.int 1), (.int 2), (.ref am)]))
  refine GoW.st (t' := T42.setTop (mkF m 84 #[.val (.ref a0_), .val (.ref a1_), .val (.ref a2_), .val (.int (-1)), .unset] [(.ref a2_), (.int 3), (.ref am)])) (fun target kt => ?_) ?_
  · refine XS.imul X42.here hx rfl (hb hby d9_80) rfl ?_
    refine XS.iconst X42.here hx rfl (hb hby d9_81) ?_
    refine XS.iadd X42.here hx rfl (hb hby d9_82) rfl ?_
    refine XS.aloadN X42.here hx rfl (hb hby d9_83) rfl rfl ?_
    exact kt
  obtain ⟨cl43, Ar43, q43, S43, M43, H43, G43⟩ := id V36
  have hin43 : ¬ ((3 : Int32) < 0 ∨ cl43.slots.size ≤ ((3 : Int32)).toNatClampNeg) := inb_of S43 ⟨by decide, by decide⟩
  have c44 := (E_a2.ext E10).wr W35
  obtain ⟨T43, h43, X43, e43, W43, st43⟩ := stR X42 hx hZ e42 Ar43 (j := (3 : Int32)) hin43 rfl (Sto.ofV Ar43 q43 ov (Ins.of_exa c44 (hw _ tw102))) (g := (mkF m 84 #[.val (.ref a0_), .val (.ref a1_), .val (.ref a2_), .val (.int (-1)), .unset] [(.ref a2_), (.int 3), (.ref am)])) rfl rfl (hb hby d9_84)
  have V45 : Arv Z h43 am km (.object sq1) (4 : Int32) [(.ref y0), u0, (.ref a1_), (.ref a2_)] .null := Arv.set Ar43 q43 S43 M43 H43 G43 rfl W43 3 rfl (Nat.le_of_ble_eq_true rfl)
  have K46 := K37.wr W43 (Or.inl (List.mem_of_getElem? (i := 1) rfl))
  have O47 := O38.wr W43 gm
  have N43 := Fr.snoc X43 N35 gm
  refine GoW.st st43 ?_
  show GoW _ _ _ _ _ _ _ (T43.setTop (mkF m 85 _ []))
  refine GoW.st (t' := T43.setTop (mkF m 87 #[.val (.ref a0_), .val (.ref a1_), .val (.ref a2_), .val (.int (-1)), .unset] [(.ref a0_), (.ref a0_)])) (fun target kt => ?_) ?_
  · refine XS.aloadN X43.here hx rfl (hb hby d9_85) rfl rfl ?_
    refine XS.dup X43.here hx rfl (hb hby d9_86) rfl rfl ?_
    exact kt
  have c48 := c41.other W43 (Or.inl nem)
  obtain ⟨T49, X49, e49, st49⟩ := getF X43 hx hZ hown (host := "") (Or.inl (hw _ tw68)) Via.refl e43 c48 (g := (mkF m 87 #[.val (.ref a0_), .val (.ref a1_), .val (.ref a2_), .val (.int (-1)), .unset] [(.ref a0_), (.ref a0_)])) rfl rfl (hb hby d9_87)
  refine GoW.st st49 ?_
  show GoW _ _ _ _ _ _ _ (T49.setTop (mkF m 90 _ [(.int 1), (.ref a0_)]))
  refine GoW.st (t' := T49.setTop (mkF m 92 #[.val (.ref a0_), .val (.ref a1_), .val (.ref a2_), .val (.int (-1)), .unset] [(.int 2), (.ref a0_)])) (fun target kt => ?_) ?_
  · refine XS.iconst X49.here hx rfl (hb hby d9_90) ?_
    refine XS.iadd X49.here hx rfl (hb hby d9_91) rfl ?_
    exact kt
  have c50 := (c14.wr W35).wr W43
  obtain ⟨T51, h51, X51, e51, W51, st51⟩ := putF X49 hx hZ hown (host := "") (Or.inl (hw _ tw68)) Via.refl e49 c48 c50 (Or.inl (hw _ tw69)) (hw _ tw1) (ty := .int) (by decide) rfl rfl (g := (mkF m 92 #[.val (.ref a0_), .val (.ref a1_), .val (.ref a2_), .val (.int (-1)), .unset] [(.int 2), (.ref a0_)])) rfl rfl (hb hby d9_92)
  have F52 : Fld Z h51 a0_ sq0 "size" "I" (.int 2) := c48.same W51
  have K53 := K46.wr W51 (Or.inl (List.mem_of_getElem? (i := 0) rfl))
  have O54 := O47.wr W51 g0
  have N51 := Fr.snoc X51 N43 g0
  refine GoW.st st51 ?_
  show GoW _ _ _ _ _ _ _ (T51.setTop (mkF m 95 _ []))
  refine GoW.st (t' := T51.setTop (mkF m 97 #[.val (.ref a0_), .val (.ref a1_), .val (.ref a2_), .val (.int (-1)), .unset] [(.ref a0_), (.ref a0_)])) (fun target kt => ?_) ?_
  · refine XS.aloadN X51.here hx rfl (hb hby d9_95) rfl rfl ?_
    refine XS.dup X51.here hx rfl (hb hby d9_96) rfl rfl ?_
    exact kt
  have c55 := ((c18.other W35 (Or.inl nem)).other W43 (Or.inl nem)).other W51 (Or.inr (slot_ne (Or.inl (hw _ tw104)) (Or.inl (hw _ tw69)) (by decide) (t := .int) (t' := .int) (by decide) (by decide)))
  obtain ⟨T56, X56, e56, st56⟩ := getF X51 hx hZ hown (host := "") (Or.inl (hw _ tw103)) Via.refl e51 c55 (g := (mkF m 97 #[.val (.ref a0_), .val (.ref a1_), .val (.ref a2_), .val (.int (-1)), .unset] [(.ref a0_), (.ref a0_)])) rfl rfl (hb hby d9_97)
  refine GoW.st st56 ?_
  show GoW _ _ _ _ _ _ _ (T56.setTop (mkF m 100 _ [(.int pch), (.ref a0_)]))
  refine GoW.st (t' := T56.setTop (mkF m 102 #[.val (.ref a0_), .val (.ref a1_), .val (.ref a2_), .val (.int (-1)), .unset] [(.int (pch + (1 : Int32))), (.ref a0_)])) (fun target kt => ?_) ?_
  · refine XS.iconst X56.here hx rfl (hb hby d9_100) ?_
    refine XS.iadd X56.here hx rfl (hb hby d9_101) rfl ?_
    exact kt
  have c57 := c50.wr W51
  obtain ⟨T58, h58, X58, e58, W58, st58⟩ := putF X56 hx hZ hown (host := "") (Or.inl (hw _ tw103)) Via.refl e56 c55 c57 (Or.inl (hw _ tw104)) (hw _ tw1) (ty := .int) (by decide) rfl rfl (g := (mkF m 102 #[.val (.ref a0_), .val (.ref a1_), .val (.ref a2_), .val (.int (-1)), .unset] [(.int (pch + (1 : Int32))), (.ref a0_)])) rfl rfl (hb hby d9_102)
  have F59 : Fld Z h58 a0_ sq0 "changes" "I" (.int (pch + (1 : Int32))) := c55.same W58
  have K60 := K53.wr W58 (Or.inl (List.mem_of_getElem? (i := 0) rfl))
  have O61 := O54.wr W58 g0
  have N58 := Fr.snoc X58 N51 g0
  refine GoW.st st58 ?_
  show GoW _ _ _ _ _ _ _ (T58.setTop (mkF m 105 _ []))
  refine GoW.st (t' := T58.setTop (mkF m 106 #[.val (.ref a0_), .val (.ref a1_), .val (.ref a2_), .val (.int (-1)), .unset] [(.ref a0_)])) (fun target kt => ?_) ?_
  · refine XS.aloadN X58.here hx rfl (hb hby d9_105) rfl rfl ?_
    exact kt
  have c62 := (((c16.other W35 (Or.inl nem)).other W43 (Or.inl nem)).other W51 (Or.inr (slot_ne (Or.inl (hw _ tw67)) (Or.inl (hw _ tw69)) (by decide) (t := (.array .int)) (t' := .int) (by decide) (by decide)))).other W58 (Or.inr (slot_ne (Or.inl (hw _ tw67)) (Or.inl (hw _ tw104)) (by decide) (t := (.array .int)) (t' := .int) (by decide) (by decide)))
  obtain ⟨T63, X63, e63, st63⟩ := getF X58 hx hZ hown (host := "") (Or.inl (hw _ tw66)) Via.refl e58 c62 (g := (mkF m 106 #[.val (.ref a0_), .val (.ref a1_), .val (.ref a2_), .val (.int (-1)), .unset] [(.ref a0_)])) rfl rfl (hb hby d9_106)
  refine GoW.st st63 ?_
  show GoW _ _ _ _ _ _ _ (T63.setTop (mkF m 109 _ [.null]))
  refine GoW.st (t' := T63.setTop (mkF m 126 #[.val (.ref a0_), .val (.ref a1_), .val (.ref a2_), .val (.int (-1)), .unset] [(.ref a0_)])) (fun target kt => ?_) ?_
  · refine XS.ifnullYes X63.here hx rfl (pc0 := 109) (pc' := 125) rfl (hb hby d9_109) rfl (by decide) (by decide) ?_
    refine XS.aloadN X63.here hx rfl (hb hby d9_125) rfl rfl ?_
    exact kt
  have c64 := F52.other W58 (Or.inr (slot_ne (Or.inl (hw _ tw69)) (Or.inl (hw _ tw104)) (by decide) (t := .int) (t' := .int) (by decide) (by decide)))
  obtain ⟨T65, X65, e65, st65⟩ := getF X63 hx hZ hown (host := "") (Or.inl (hw _ tw68)) Via.refl e63 c64 (g := (mkF m 126 #[.val (.ref a0_), .val (.ref a1_), .val (.ref a2_), .val (.int (-1)), .unset] [(.ref a0_)])) rfl rfl (hb hby d9_126)
  refine GoW.st st65 ?_
  show GoW _ _ _ _ _ _ _ (T65.setTop (mkF m 129 _ [(.int 2)]))
  refine GoW.st (t' := T65.setTop (mkF m 139 #[.val (.ref a0_), .val (.ref a1_), .val (.ref a2_), .val (.int (-1)), .unset] [.null])) (fun target kt => ?_) ?_
  · refine XS.bipush X65.here hx rfl (hb hby d9_129) ?_
    refine XS.icmpYes X65.here hx rfl (pc0 := 131) (pc' := 138) rfl (hb hby d9_131) rfl (flt (by decide : ¬ ((8 : Int32) < (2 : Int32)))).2.2.2 (by decide) (by decide) ?_
    refine XS.aconstNull X65.here hx rfl (hb hby d9_138) ?_
    exact kt
  have c66 := c57.wr W58
  have c67 := ((c39.other W43 (Or.inl nem)).other W51 (Or.inr (slot_ne (Or.inl (hw _ tw17)) (Or.inl (hw _ tw69)) (by decide) (t := (.array (.object sq1))) (t' := .int) (by decide) (by decide)))).other W58 (Or.inr (slot_ne (Or.inl (hw _ tw17)) (Or.inl (hw _ tw104)) (by decide) (t := (.array (.object sq1))) (t' := .int) (by decide) (by decide)))
  have c68 := (((c19.wr W35).wr W43).wr W51).wr W58
  have c69 := (V45.other W51 (Ne.symm nem)).other W58 (Ne.symm nem)
  refine GoW.ret X65 hSi (by rw [e65]; exact (Nat.le_trans hk10 (Nat.le_trans (Nat.le_trans (Nat.le_trans (Keep.of_wr W35).1 (Keep.of_wr W43).1) (Keep.of_wr W51).1) (Keep.of_wr W58).1))) (v := some .null) (fun h => by rw [hret] at h; cases h) hlk (fun fs hr => retR X65 hx hret rfl rfl (hb hby d9_139) hr) ?_ (by decide) (by decide)
  show Q9_ne_1_4_R Z a0_ a1_ a2_ pch wcs wm am km y0 u0 vn kx xn v0 k0 x0 h0 n0 _ T65.heap _
  rw [e65]
  exact ⟨rfl, N58, K60, c66, c67, c62, c64, F59, c68, c69⟩
theorem ef9_eq_1_4_n (m : MethodId) (x0 : Addr) (x1 : Addr) : entryFrame m #[(.ref x0), (.ref x1), .null] 5 = mkF m 0 #[.val (.ref x0), .val (.ref x1), .val .null, .unset, .unset] [] := by first | (simp [entryFrame, mkF, argsToLocals, Value.category]; done) | rfl
def Q9_eq_1_4_n (Z : State) (a0_ : Addr) (a1_ : Addr) (pch : Int32) (wcs : Int32) (wm : Addr) (am : Addr) (km : ClassId) (y0 : Addr) (u0 : Value) (vn : Addr) (kx : ClassId) (xn : Int32) (v0 : Addr) (k0 : ClassId) (x0 : Int32) (h0 : Heap) (n0 : Nat) (v : Option Value) (h : Heap) (L : List Loc) : Prop := v = some u0 ∧ Fr n0 L ∧ Keep h0 h [am] ∧ Arv Z h am km (.object sq1) (4 : Int32) [(.ref y0), .null, .null, .null] .null
theorem rm9_eq_1_4_n (l : Launch) (Z : State) (a0 : Array Value) (hw : ∀ d ∈ tables_1, d.before a0 Z = true) (ws : List Jvm.Cond) (a0_ : Addr) (a1_ : Addr) (pch : Int32) (wcs : Int32) (wm : Addr) (am : Addr) (km : ClassId) (y0 : Addr) (u0 : Value) (vn : Addr) (kx : ClassId) (xn : Int32) (v0 : Addr) (k0 : ClassId) (x0 : Int32) (h0 : Heap) (n0 : Nat) (Z0 : n0 ≤ h0.size) (O0 : Old Z n0 h0) (S_CS : Sta Z Z.heap sq2 "COMPACT_STRINGS" "Z" (.int wcs)) (hcs : ¬ (wcs = (0 : Int32))) (M_AO : MirM Z sq3 wm) (E0 : Exa Z h0 a0_ sq0) (F_m : Fld Z h0 a0_ sq0 "members" sq3 (.ref am)) (F_i : Fld Z h0 a0_ sq0 "index" "[I" .null) (F_s : Fld Z h0 a0_ sq0 "size" "I" (.int 1)) (F_c : Fld Z h0 a0_ sq0 "changes" "I" (.int pch)) (E_m : Exa Z h0 am sq3) (V_m : Arv Z h0 am km (.object sq1) (4 : Int32) [(.ref y0), u0, .null, .null] .null) (E_a1_ : Exa Z h0 a1_ sq2) (Fv_a1_ : Fld Z h0 a1_ sq2 "value" "[B" (.ref vn)) (Fc_a1_ : Fld Z h0 a1_ sq2 "coder" "B" (.int 0)) (V_a1 : Arv Z h0 vn kx .byte (1 : Int32) [(.int xn)] (.int 0)) (E_y0 : Exa Z h0 y0 sq2) (Fv_y0 : Fld Z h0 y0 sq2 "value" "[B" (.ref v0)) (Fc_y0 : Fld Z h0 y0 sq2 "coder" "B" (.int 0)) (V_y0 : Arv Z h0 v0 k0 .byte (1 : Int32) [(.int x0)] (.int 0)) (ne0 : a1_ ≠ y0) (g0 : n0 ≤ a0_) (gm : n0 ≤ am) (ov : Ovr Z km sq1) (nem : a0_ ≠ am) (hu0 : u0.isRef = true) (hcd0 : xn = x0) :
    MetW l Z ws (⟨sq0, "put", sq4⟩ : MethodName) prog_14_method_5_code 5 (some (.object sq1)) (Rm 3 2 20 44) #[(.ref a0_), (.ref a1_), .null] h0 (Q9_eq_1_4_n Z a0_ a1_ pch wcs wm am km y0 u0 vn kx xn v0 k0 x0 h0 n0) := by
  refine MetW.enter (L0 := #[.val (.ref a0_), .val (.ref a1_), .val .null, .unset, .unset]) (plainFor_of_name pn10) (fun m => ef9_eq_1_4_n m a0_ a1_) ?_
  intro p e s m below meth c s₁ hx hby hml hown hnm hret hlk hZ X0 e0
  have N0 := Fr.nil n0
  have K0 : Keep h0 h0 [am] := Keep.refl h0 _
  have hSi : s.Since s.vm 0 := (State.WarmedH.refl s).since 0
  have wS : ∀ a ∈ Bundle.stringAtoms, a.before a0 Z = true := own_wS hw
  refine GoW.st (t' := s₁.setTop (mkF m 2 #[.val (.ref a0_), .val (.ref a1_), .val .null, .unset, .unset] [(.ref a1_), (.ref a0_)])) (fun target kt => ?_) ?_
  · refine XS.aloadN X0.here hx rfl (hb hby d9_0) rfl rfl ?_
    refine XS.aloadN X0.here hx rfl (hb hby d9_1) rfl rfl ?_
    exact kt
  obtain ⟨b10, T10, h10, k10, X10, e10, E10, hSi, hk10, hZ, hown, st10⟩ := ldcS X0 hx hZ hown (hw _ tw54) wS e0 hSi (Nat.zero_le _) (g := (mkF m 2 #[.val (.ref a0_), .val (.ref a1_), .val .null, .unset, .unset] [(.ref a1_), (.ref a0_)])) rfl (hb hby d9_2) (n := 16) (by decide) (by decide) (by decide) (by decide)
  have K11 := K0.ext E10
  have O12 := O0.ext E10
  refine GoW.st st10 ?_
  show GoW _ _ _ _ _ _ _ (T10.setTop (mkF m 4 _ [(.ref b10), (.ref a1_), (.ref a0_)]))
  obtain ⟨_, _, ⟨T13, L13, k13, n13⟩, -, X13, ⟨Lc13, hQ13, l13, y13, z13⟩, st13⟩ := Jvm.LawKit.callS X10 hx (y := (⟨"java/util/Objects", "requireNonNull", "(Ljava/lang/Object;Ljava/lang/String;)Ljava/lang/Object;"⟩ : MethodName)) hown (mvT hZ (hw _ tw57)) (mvT hZ (hw _ tw58)) (mvT hZ (hw _ tw59)) (mvT hZ (hw _ tw60)) (by decide) (backOf (W := 1) (rm10 l Z a0 hw [] a1_ b10 h10 n0 (Nat.le_trans Z0 K11.1) O12  ) hZ (hw _ tw60) (hw _ tw59) (by decide) (by decide)) (g := (mkF m 4 #[.val (.ref a0_), .val (.ref a1_), .val .null, .unset, .unset] [(.ref b10), (.ref a1_), (.ref a0_)])) rfl (by rw [hml]; rfl) (argsL := [(.ref a1_), (.ref b10)]) (rest := [(.ref a0_)]) (lenOf pd10 rfl) rfl (by show 2 * 0 + _ ≤ _; exact Nat.le_of_eq rfl) (hb hby d9_4) (fun _ _ => ⟨rfl, e10, (by decide : 2 + 0 ≤ _), (by decide : 20 + 0 ≤ _)⟩)
  dsimp only [Pt.U, Pt.locs, Pt.cells, Pt.slots] at X13 l13 y13 z13 st13 hQ13
  subst l13 y13 z13
  obtain ⟨rfl, Nq13, eq13⟩ := hQ13
  have N13 := Fr.app N0 Nq13
  refine GoW.st st13 ?_
  show GoW _ _ _ _ _ _ _ (T13.setTop (mkF m 7 _ [(.ref a1_), (.ref a0_)]))
  have c14 := E0.ext E10
  have c15 := F_m.ext E10
  have c16 := F_i.ext E10
  have c17 := F_s.ext E10
  have c18 := F_c.ext E10
  have c19 := E_m.ext E10
  have c20 := V_m.ext E10
  have c21 := E_a1_.ext E10
  have c22 := Fv_a1_.ext E10
  have c23 := Fc_a1_.ext E10
  have c24 := V_a1.ext E10
  have c25 := E_y0.ext E10
  have c26 := Fv_y0.ext E10
  have c27 := Fc_y0.ext E10
  have c28 := V_y0.ext E10
  obtain ⟨cq29, q29, q29'⟩ := c14.cell
  obtain ⟨_, _, ⟨T29, L29, k29, n29⟩, -, X29, ⟨Lc29, hQ29, l29, y29, z29⟩, st29⟩ := X13.privateBack hx (y := (⟨sq0, "find", "(Ljava/lang/Object;)I"⟩ : MethodName)) hown (mvT hZ (hw _ tw61)) (mvT hZ (hw _ tw62)) (mvT hZ (own_selp (y := (⟨sq0, "find", "(Ljava/lang/Object;)I"⟩ : MethodName)) (hw _ tw1) (hw _ tw63) (hw _ tw62) (by decide))) (Cond.privateMethod_at (mvP hZ (hw _ tw63) (args := #[]))) (mvT hZ (hw _ tw64)) (by decide) (backOf (W := 0) (rm11_eq_1_4 l Z a0 hw [] a0_ a1_ pch wcs am km y0 u0 vn kx xn v0 k0 x0 h10 n0 (Nat.le_trans Z0 K11.1) O12 S_CS hcs c14 c15 c16 c17 c18 c19 c20 c21 c22 c23 c24 c25 c26 c27 c28 ne0 hcd0) hZ (hw _ tw64) (hw _ tw2) (by decide) (by decide)) (g := (mkF m 7 #[.val (.ref a0_), .val (.ref a1_), .val .null, .unset, .unset] [(.ref a1_), (.ref a0_)])) rfl (by rw [hml]; rfl) (Steps.refl _) (a := a0_) (by rw [eq13]; exact q29) q29' (argsL := [(.ref a1_)]) (rest := []) (lenOf pd11 rfl) rfl (by show 2 * 0 + _ ≤ _; exact Nat.le_of_eq rfl) (hb hby d9_7) (fun _ _ => ⟨rfl, eq13, (by decide : 2 + 0 ≤ _), (by decide : 20 + 0 ≤ _)⟩)
  dsimp only [Pt.U, Pt.locs, Pt.cells, Pt.slots] at X29 l29 y29 z29 st29 hQ29
  subst l29 y29 z29
  obtain ⟨rfl, Nq29, eq29⟩ := hQ29
  have N29 := Fr.app N13 Nq29
  refine GoW.by st29 ?_
  show GoW _ _ _ _ _ _ _ (T29.setTop (mkF m 10 _ [(.int 0)]))
  refine GoW.st (t' := T29.setTop (mkF m 16 #[.val (.ref a0_), .val (.ref a1_), .val .null, .val (.int 0), .unset] [(.ref a0_)])) (fun target kt => ?_) ?_
  · refine XS.istoreN X29.here hx rfl (hb hby d9_10) rfl (l' := #[.val (.ref a0_), .val (.ref a1_), .val .null, .val (.int 0), .unset]) rfl ?_
    refine XS.iloadN X29.here hx rfl (hb hby d9_11) rfl ?_
    refine XS.ifNo X29.here hx rfl (hb hby d9_12) rfl ((if0 _ _).trans (flt (by decide : ¬ ((0 : Int32) < (0 : Int32)))).1) ?_
    refine XS.aloadN X29.here hx rfl (hb hby d9_15) rfl rfl ?_
    exact kt
  obtain ⟨T30, X30, e30, st30⟩ := getF X29 hx hZ hown (host := "") (Or.inl (hw _ tw16)) Via.refl eq29 c15 (g := (mkF m 16 #[.val (.ref a0_), .val (.ref a1_), .val .null, .val (.int 0), .unset] [(.ref a0_)])) rfl rfl (hb hby d9_16)
  refine GoW.st st30 ?_
  show GoW _ _ _ _ _ _ _ (T30.setTop (mkF m 19 _ [(.ref am)]))
  obtain ⟨cl31, Ar31, -, S31, M31, H31, -⟩ := id c20
  have hin31 : ¬ ((1 : Int32) < 0 ∨ cl31.slots.size ≤ ((1 : Int32)).toNatClampNeg) := inb_of S31 ⟨by decide, by decide⟩
  have hat31 : cl31.slots[((1 : Int32)).toNatClampNeg]? = some u0 := H31.at hin31 rfl
  refine GoW.st (t' := T30.setTop (mkF m 28 #[.val (.ref a0_), .val (.ref a1_), .val .null, .val (.int 0), .val u0] [(.ref a0_)])) (fun target kt => ?_) ?_
  · refine XS.iconst X30.here hx rfl (hb hby d9_19) ?_
    refine XS.iloadN X30.here hx rfl (hb hby d9_20) rfl ?_
    refine XS.imul X30.here hx rfl (hb hby d9_21) rfl ?_
    refine XS.iconst X30.here hx rfl (hb hby d9_22) ?_
    refine XS.iadd X30.here hx rfl (hb hby d9_23) rfl ?_
    refine X30.aaload hx (j := (1 : Int32)) (v := u0) (by rw [e30]; exact Ar31.1) (State.isArrayOf_alike hZ.alike Ar31.2.1) rfl Ar31.2.2 hin31 hat31 (g := (mkF m 24 #[.val (.ref a0_), .val (.ref a1_), .val .null, .val (.int 0), .unset] [(.int 1), (.ref am)])) rfl rfl (hb hby d9_24) _ ?_
    refine XS.astore X30.here hx rfl (hb hby d9_25) rfl hu0 (l' := #[.val (.ref a0_), .val (.ref a1_), .val .null, .val (.int 0), .val u0]) (by cases u0 <;> first | rfl | exact absurd hu0 Bool.false_ne_true) ?_
    refine XS.aloadN X30.here hx rfl (hb hby d9_27) rfl rfl ?_
    exact kt
  obtain ⟨T32, X32, e32, st32⟩ := getF X30 hx hZ hown (host := "") (Or.inl (hw _ tw16)) Via.refl e30 c15 (g := (mkF m 28 #[.val (.ref a0_), .val (.ref a1_), .val .null, .val (.int 0), .val u0] [(.ref a0_)])) rfl rfl (hb hby d9_28)
  refine GoW.st st32 ?_
  show GoW _ _ _ _ _ _ _ (T32.setTop (mkF m 31 _ [(.ref am)]))
  refine GoW.st (t' := T32.setTop (mkF m 37 #[.val (.ref a0_), .val (.ref a1_), .val .null, .val (.int 0), .val u0] [.null, (.int 1), (.ref am)])) (fun target kt => ?_) ?_
  · refine XS.iconst X32.here hx rfl (hb hby d9_31) ?_
    refine XS.iloadN X32.here hx rfl (hb hby d9_32) rfl ?_
    refine XS.imul X32.here hx rfl (hb hby d9_33) rfl ?_
    refine XS.iconst X32.here hx rfl (hb hby d9_34) ?_
    refine XS.iadd X32.here hx rfl (hb hby d9_35) rfl ?_
    refine XS.aloadN X32.here hx rfl (hb hby d9_36) rfl rfl ?_
    exact kt
  obtain ⟨cl33, Ar33, q33, S33, M33, H33, G33⟩ := id c20
  have hin33 : ¬ ((1 : Int32) < 0 ∨ cl33.slots.size ≤ ((1 : Int32)).toNatClampNeg) := inb_of S33 ⟨by decide, by decide⟩
  obtain ⟨T33, h33, X33, e33, W33, st33⟩ := stR X32 hx hZ e32 Ar33 (j := (1 : Int32)) hin33 rfl (Or.inl rfl) (g := (mkF m 37 #[.val (.ref a0_), .val (.ref a1_), .val .null, .val (.int 0), .val u0] [.null, (.int 1), (.ref am)])) rfl rfl (hb hby d9_37)
  have V34 : Arv Z h33 am km (.object sq1) (4 : Int32) [(.ref y0), .null, .null, .null] .null := Arv.set Ar33 q33 S33 M33 H33 G33 rfl W33 1 rfl (Nat.le_of_ble_eq_true rfl)
  have K35 := K11.wr W33 (Or.inl (List.mem_of_getElem? (i := 0) rfl))
  have O36 := O12.wr W33 gm
  have N33 := Fr.snoc X33 N29 gm
  refine GoW.st st33 ?_
  show GoW _ _ _ _ _ _ _ (T33.setTop (mkF m 38 _ []))
  refine GoW.st (t' := T33.setTop (mkF m 40 #[.val (.ref a0_), .val (.ref a1_), .val .null, .val (.int 0), .val u0] [u0])) (fun target kt => ?_) ?_
  · refine XS.aload X33.here hx rfl (hb hby d9_38) rfl hu0 ?_
    exact kt
  refine GoW.ret X33 hSi (by rw [e33]; exact (Nat.le_trans hk10 (Keep.of_wr W33).1)) (v := some u0) (fun h => by rw [hret] at h; cases h) hlk (fun fs hr => retR X33 hx hret rfl hu0 (hb hby d9_40) hr) ?_ (by decide) (by decide)
  show Q9_eq_1_4_n Z a0_ a1_ pch wcs wm am km y0 u0 vn kx xn v0 k0 x0 h0 n0 _ T33.heap _
  rw [e33]
  exact ⟨rfl, N33, K35, V34⟩
theorem ef9_ne_1_4_n (m : MethodId) (x0 : Addr) (x1 : Addr) : entryFrame m #[(.ref x0), (.ref x1), .null] 5 = mkF m 0 #[.val (.ref x0), .val (.ref x1), .val .null, .unset, .unset] [] := by first | (simp [entryFrame, mkF, argsToLocals, Value.category]; done) | rfl
def Q9_ne_1_4_n (Z : State) (a0_ : Addr) (a1_ : Addr) (pch : Int32) (wcs : Int32) (wm : Addr) (am : Addr) (km : ClassId) (y0 : Addr) (u0 : Value) (vn : Addr) (kx : ClassId) (xn : Int32) (v0 : Addr) (k0 : ClassId) (x0 : Int32) (h0 : Heap) (n0 : Nat) (v : Option Value) (h : Heap) (L : List Loc) : Prop := v = some .null ∧ Fr n0 L ∧ Keep h0 h [a0_, am] ∧ Exa Z h a0_ sq0 ∧ Fld Z h a0_ sq0 "members" sq3 (.ref am) ∧ Fld Z h a0_ sq0 "index" "[I" .null ∧ Fld Z h a0_ sq0 "size" "I" (.int 2) ∧ Fld Z h a0_ sq0 "changes" "I" (.int (pch + (1 : Int32))) ∧ Exa Z h am sq3 ∧ Arv Z h am km (.object sq1) (4 : Int32) [(.ref y0), u0, (.ref a1_), .null] .null
theorem rm9_ne_1_4_n (l : Launch) (Z : State) (a0 : Array Value) (hw : ∀ d ∈ tables_1, d.before a0 Z = true) (ws : List Jvm.Cond) (a0_ : Addr) (a1_ : Addr) (pch : Int32) (wcs : Int32) (wm : Addr) (am : Addr) (km : ClassId) (y0 : Addr) (u0 : Value) (vn : Addr) (kx : ClassId) (xn : Int32) (v0 : Addr) (k0 : ClassId) (x0 : Int32) (h0 : Heap) (n0 : Nat) (Z0 : n0 ≤ h0.size) (O0 : Old Z n0 h0) (S_CS : Sta Z Z.heap sq2 "COMPACT_STRINGS" "Z" (.int wcs)) (hcs : ¬ (wcs = (0 : Int32))) (M_AO : MirM Z sq3 wm) (E0 : Exa Z h0 a0_ sq0) (F_m : Fld Z h0 a0_ sq0 "members" sq3 (.ref am)) (F_i : Fld Z h0 a0_ sq0 "index" "[I" .null) (F_s : Fld Z h0 a0_ sq0 "size" "I" (.int 1)) (F_c : Fld Z h0 a0_ sq0 "changes" "I" (.int pch)) (E_m : Exa Z h0 am sq3) (V_m : Arv Z h0 am km (.object sq1) (4 : Int32) [(.ref y0), u0, .null, .null] .null) (E_a1_ : Exa Z h0 a1_ sq2) (Fv_a1_ : Fld Z h0 a1_ sq2 "value" "[B" (.ref vn)) (Fc_a1_ : Fld Z h0 a1_ sq2 "coder" "B" (.int 0)) (V_a1 : Arv Z h0 vn kx .byte (1 : Int32) [(.int xn)] (.int 0)) (E_y0 : Exa Z h0 y0 sq2) (Fv_y0 : Fld Z h0 y0 sq2 "value" "[B" (.ref v0)) (Fc_y0 : Fld Z h0 y0 sq2 "coder" "B" (.int 0)) (V_y0 : Arv Z h0 v0 k0 .byte (1 : Int32) [(.int x0)] (.int 0)) (ne0 : a1_ ≠ y0) (g0 : n0 ≤ a0_) (gm : n0 ≤ am) (ov : Ovr Z km sq1) (nem : a0_ ≠ am) (hcd0 : ¬ (xn = x0)) :
    MetW l Z ws (⟨sq0, "put", sq4⟩ : MethodName) prog_14_method_5_code 5 (some (.object sq1)) (Rm 3 2 20 44) #[(.ref a0_), (.ref a1_), .null] h0 (Q9_ne_1_4_n Z a0_ a1_ pch wcs wm am km y0 u0 vn kx xn v0 k0 x0 h0 n0) := by
  refine MetW.enter (L0 := #[.val (.ref a0_), .val (.ref a1_), .val .null, .unset, .unset]) (plainFor_of_name pn10) (fun m => ef9_ne_1_4_n m a0_ a1_) ?_
  intro p e s m below meth c s₁ hx hby hml hown hnm hret hlk hZ X0 e0
  have N0 := Fr.nil n0
  have K0 : Keep h0 h0 [a0_, am] := Keep.refl h0 _
  have hSi : s.Since s.vm 0 := (State.WarmedH.refl s).since 0
  have wS : ∀ a ∈ Bundle.stringAtoms, a.before a0 Z = true := own_wS hw
  refine GoW.st (t' := s₁.setTop (mkF m 2 #[.val (.ref a0_), .val (.ref a1_), .val .null, .unset, .unset] [(.ref a1_), (.ref a0_)])) (fun target kt => ?_) ?_
  · refine XS.aloadN X0.here hx rfl (hb hby d9_0) rfl rfl ?_
    refine XS.aloadN X0.here hx rfl (hb hby d9_1) rfl rfl ?_
    exact kt
  obtain ⟨b10, T10, h10, k10, X10, e10, E10, hSi, hk10, hZ, hown, st10⟩ := ldcS X0 hx hZ hown (hw _ tw54) wS e0 hSi (Nat.zero_le _) (g := (mkF m 2 #[.val (.ref a0_), .val (.ref a1_), .val .null, .unset, .unset] [(.ref a1_), (.ref a0_)])) rfl (hb hby d9_2) (n := 16) (by decide) (by decide) (by decide) (by decide)
  have K11 := K0.ext E10
  have O12 := O0.ext E10
  refine GoW.st st10 ?_
  show GoW _ _ _ _ _ _ _ (T10.setTop (mkF m 4 _ [(.ref b10), (.ref a1_), (.ref a0_)]))
  obtain ⟨_, _, ⟨T13, L13, k13, n13⟩, -, X13, ⟨Lc13, hQ13, l13, y13, z13⟩, st13⟩ := Jvm.LawKit.callS X10 hx (y := (⟨"java/util/Objects", "requireNonNull", "(Ljava/lang/Object;Ljava/lang/String;)Ljava/lang/Object;"⟩ : MethodName)) hown (mvT hZ (hw _ tw57)) (mvT hZ (hw _ tw58)) (mvT hZ (hw _ tw59)) (mvT hZ (hw _ tw60)) (by decide) (backOf (W := 1) (rm10 l Z a0 hw [] a1_ b10 h10 n0 (Nat.le_trans Z0 K11.1) O12  ) hZ (hw _ tw60) (hw _ tw59) (by decide) (by decide)) (g := (mkF m 4 #[.val (.ref a0_), .val (.ref a1_), .val .null, .unset, .unset] [(.ref b10), (.ref a1_), (.ref a0_)])) rfl (by rw [hml]; rfl) (argsL := [(.ref a1_), (.ref b10)]) (rest := [(.ref a0_)]) (lenOf pd10 rfl) rfl (by show 2 * 0 + _ ≤ _; exact Nat.le_of_eq rfl) (hb hby d9_4) (fun _ _ => ⟨rfl, e10, (by decide : 2 + 0 ≤ _), (by decide : 20 + 0 ≤ _)⟩)
  dsimp only [Pt.U, Pt.locs, Pt.cells, Pt.slots] at X13 l13 y13 z13 st13 hQ13
  subst l13 y13 z13
  obtain ⟨rfl, Nq13, eq13⟩ := hQ13
  have N13 := Fr.app N0 Nq13
  refine GoW.st st13 ?_
  show GoW _ _ _ _ _ _ _ (T13.setTop (mkF m 7 _ [(.ref a1_), (.ref a0_)]))
  have c14 := E0.ext E10
  have c15 := F_m.ext E10
  have c16 := F_i.ext E10
  have c17 := F_s.ext E10
  have c18 := F_c.ext E10
  have c19 := E_m.ext E10
  have c20 := V_m.ext E10
  have c21 := E_a1_.ext E10
  have c22 := Fv_a1_.ext E10
  have c23 := Fc_a1_.ext E10
  have c24 := V_a1.ext E10
  have c25 := E_y0.ext E10
  have c26 := Fv_y0.ext E10
  have c27 := Fc_y0.ext E10
  have c28 := V_y0.ext E10
  obtain ⟨cq29, q29, q29'⟩ := c14.cell
  obtain ⟨_, _, ⟨T29, L29, k29, n29⟩, -, X29, ⟨Lc29, hQ29, l29, y29, z29⟩, st29⟩ := X13.privateBack hx (y := (⟨sq0, "find", "(Ljava/lang/Object;)I"⟩ : MethodName)) hown (mvT hZ (hw _ tw61)) (mvT hZ (hw _ tw62)) (mvT hZ (own_selp (y := (⟨sq0, "find", "(Ljava/lang/Object;)I"⟩ : MethodName)) (hw _ tw1) (hw _ tw63) (hw _ tw62) (by decide))) (Cond.privateMethod_at (mvP hZ (hw _ tw63) (args := #[]))) (mvT hZ (hw _ tw64)) (by decide) (backOf (W := 0) (rm11_ne_1_4 l Z a0 hw [] a0_ a1_ pch wcs am km y0 u0 vn kx xn v0 k0 x0 h10 n0 (Nat.le_trans Z0 K11.1) O12 S_CS hcs c14 c15 c16 c17 c18 c19 c20 c21 c22 c23 c24 c25 c26 c27 c28 ne0 hcd0) hZ (hw _ tw64) (hw _ tw2) (by decide) (by decide)) (g := (mkF m 7 #[.val (.ref a0_), .val (.ref a1_), .val .null, .unset, .unset] [(.ref a1_), (.ref a0_)])) rfl (by rw [hml]; rfl) (Steps.refl _) (a := a0_) (by rw [eq13]; exact q29) q29' (argsL := [(.ref a1_)]) (rest := []) (lenOf pd11 rfl) rfl (by show 2 * 0 + _ ≤ _; exact Nat.le_of_eq rfl) (hb hby d9_7) (fun _ _ => ⟨rfl, eq13, (by decide : 2 + 0 ≤ _), (by decide : 20 + 0 ≤ _)⟩)
  dsimp only [Pt.U, Pt.locs, Pt.cells, Pt.slots] at X29 l29 y29 z29 st29 hQ29
  subst l29 y29 z29
  obtain ⟨rfl, Nq29, eq29⟩ := hQ29
  have N29 := Fr.app N13 Nq29
  refine GoW.by st29 ?_
  show GoW _ _ _ _ _ _ _ (T29.setTop (mkF m 10 _ [(.int (-1))]))
  refine GoW.st (t' := T29.setTop (mkF m 43 #[.val (.ref a0_), .val (.ref a1_), .val .null, .val (.int (-1)), .unset] [(.ref a0_), (.int 2)])) (fun target kt => ?_) ?_
  · refine XS.istoreN X29.here hx rfl (hb hby d9_10) rfl (l' := #[.val (.ref a0_), .val (.ref a1_), .val .null, .val (.int (-1)), .unset]) rfl ?_
    refine XS.iloadN X29.here hx rfl (hb hby d9_11) rfl ?_
    refine XS.ifYes X29.here hx rfl (pc0 := 12) (pc' := 41) rfl (hb hby d9_12) rfl ((if0 _ _).trans (tlt (by decide : (-1 : Int32) < (0 : Int32))).1) (by decide) (by decide) ?_
    refine XS.iconst X29.here hx rfl (hb hby d9_41) ?_
    refine XS.aloadN X29.here hx rfl (hb hby d9_42) rfl rfl ?_
    exact kt
  obtain ⟨T30, X30, e30, st30⟩ := getF X29 hx hZ hown (host := "") (Or.inl (hw _ tw68)) Via.refl eq29 c17 (g := (mkF m 43 #[.val (.ref a0_), .val (.ref a1_), .val .null, .val (.int (-1)), .unset] [(.ref a0_), (.int 2)])) rfl rfl (hb hby d9_43)
  refine GoW.st st30 ?_
  show GoW _ _ _ _ _ _ _ (T30.setTop (mkF m 46 _ [(.int 1), (.int 2)]))
  refine GoW.st (t' := T30.setTop (mkF m 48 #[.val (.ref a0_), .val (.ref a1_), .val .null, .val (.int (-1)), .unset] [(.ref a0_), (.int 2)])) (fun target kt => ?_) ?_
  · refine XS.imul X30.here hx rfl (hb hby d9_46) rfl ?_
    refine XS.aloadN X30.here hx rfl (hb hby d9_47) rfl rfl ?_
    exact kt
  obtain ⟨T31, X31, e31, st31⟩ := getF X30 hx hZ hown (host := "") (Or.inl (hw _ tw16)) Via.refl e30 c15 (g := (mkF m 48 #[.val (.ref a0_), .val (.ref a1_), .val .null, .val (.int (-1)), .unset] [(.ref a0_), (.int 2)])) rfl rfl (hb hby d9_48)
  refine GoW.st st31 ?_
  show GoW _ _ _ _ _ _ _ (T31.setTop (mkF m 51 _ [(.ref am), (.int 2)]))
  obtain ⟨cl32, Ar32, -, S32, M32, -, -⟩ := id c20
  refine GoW.st (t' := T31.setTop (mkF m 60 #[.val (.ref a0_), .val (.ref a1_), .val .null, .val (.int (-1)), .unset] [(.ref a0_)])) (fun target kt => ?_) ?_
  · refine X31.arraylength hx (by rw [e31]; exact Ar32.1) (State.isArrayOf_alike hZ.alike Ar32.2.1) (g := (mkF m 51 #[.val (.ref a0_), .val (.ref a1_), .val .null, .val (.int (-1)), .unset] [(.ref am), (.int 2)])) rfl rfl (hb hby d9_51) _ ?_
    rw [len_of S32 M32]
    refine XS.icmpYes X31.here hx rfl (pc0 := 52) (pc' := 59) rfl (hb hby d9_52) rfl (feq (by decide : ¬ ((2 : Int32) = (4 : Int32)))).2 (by decide) (by decide) ?_
    refine XS.aloadN X31.here hx rfl (hb hby d9_59) rfl rfl ?_
    exact kt
  obtain ⟨T33, X33, e33, st33⟩ := getF X31 hx hZ hown (host := "") (Or.inl (hw _ tw16)) Via.refl e31 c15 (g := (mkF m 60 #[.val (.ref a0_), .val (.ref a1_), .val .null, .val (.int (-1)), .unset] [(.ref a0_)])) rfl rfl (hb hby d9_60)
  refine GoW.st st33 ?_
  show GoW _ _ _ _ _ _ _ (T33.setTop (mkF m 63 _ [(.ref am)]))
  refine GoW.st (t' := T33.setTop (mkF m 65 #[.val (.ref a0_), .val (.ref a1_), .val .null, .val (.int (-1)), .unset] [(.ref a0_), (.int 2), (.ref am)])) (fun target kt => ?_) ?_
  · refine XS.iconst X33.here hx rfl (hb hby d9_63) ?_
    refine XS.aloadN X33.here hx rfl (hb hby d9_64) rfl rfl ?_
    exact kt
  obtain ⟨T34, X34, e34, st34⟩ := getF X33 hx hZ hown (host := "") (Or.inl (hw _ tw68)) Via.refl e33 c17 (g := (mkF m 65 #[.val (.ref a0_), .val (.ref a1_), .val .null, .val (.int (-1)), .unset] [(.ref a0_), (.int 2), (.ref am)])) rfl rfl (hb hby d9_65)
  refine GoW.st st34 ?_
  show GoW _ _ _ _ _ _ _ (T34.setTop (mkF m 68 _ [(.int 1), (.int 2), (.ref am)]))
  refine GoW.st (t' := T34.setTop (mkF m 70 #[.val (.ref a0_), .val (.ref a1_), .val .null, .val (.int (-1)), .unset] [(.ref a1_), (.int 2), (.ref am)])) (fun target kt => ?_) ?_
  · refine XS.imul X34.here hx rfl (hb hby d9_68) rfl ?_
    refine XS.aloadN X34.here hx rfl (hb hby d9_69) rfl rfl ?_
    exact kt
  obtain ⟨cl35, Ar35, q35, S35, M35, H35, G35⟩ := id c20
  have hin35 : ¬ ((2 : Int32) < 0 ∨ cl35.slots.size ≤ ((2 : Int32)).toNatClampNeg) := inb_of S35 ⟨by decide, by decide⟩
  obtain ⟨T35, h35, X35, e35, W35, st35⟩ := stR X34 hx hZ e34 Ar35 (j := (2 : Int32)) hin35 rfl (Sto.ofV Ar35 q35 ov (Ins.of_exa c21 (hw _ tw101))) (g := (mkF m 70 #[.val (.ref a0_), .val (.ref a1_), .val .null, .val (.int (-1)), .unset] [(.ref a1_), (.int 2), (.ref am)])) rfl rfl (hb hby d9_70)
  have V36 : Arv Z h35 am km (.object sq1) (4 : Int32) [(.ref y0), u0, (.ref a1_), .null] .null := Arv.set Ar35 q35 S35 M35 H35 G35 rfl W35 2 rfl (Nat.le_of_ble_eq_true rfl)
  have K37 := K11.wr W35 (Or.inl (List.mem_of_getElem? (i := 1) rfl))
  have O38 := O12.wr W35 gm
  have N35 := Fr.snoc X35 N29 gm
  refine GoW.st st35 ?_
  show GoW _ _ _ _ _ _ _ (T35.setTop (mkF m 71 _ []))
  refine GoW.st (t' := T35.setTop (mkF m 72 #[.val (.ref a0_), .val (.ref a1_), .val .null, .val (.int (-1)), .unset] [(.ref a0_)])) (fun target kt => ?_) ?_
  · refine XS.aloadN X35.here hx rfl (hb hby d9_71) rfl rfl ?_
    exact kt
  have c39 := c15.other W35 (Or.inl nem)
  obtain ⟨T40, X40, e40, st40⟩ := getF X35 hx hZ hown (host := "") (Or.inl (hw _ tw16)) Via.refl e35 c39 (g := (mkF m 72 #[.val (.ref a0_), .val (.ref a1_), .val .null, .val (.int (-1)), .unset] [(.ref a0_)])) rfl rfl (hb hby d9_72)
  refine GoW.st st40 ?_
  show GoW _ _ _ _ _ _ _ (T40.setTop (mkF m 75 _ [(.ref am)]))
  refine GoW.st (t' := T40.setTop (mkF m 77 #[.val (.ref a0_), .val (.ref a1_), .val .null, .val (.int (-1)), .unset] [(.ref a0_), (.int 2), (.ref am)])) (fun target kt => ?_) ?_
  · refine XS.iconst X40.here hx rfl (hb hby d9_75) ?_
    refine XS.aloadN X40.here hx rfl (hb hby d9_76) rfl rfl ?_
    exact kt
  have c41 := c17.other W35 (Or.inl nem)
  obtain ⟨T42, X42, e42, st42⟩ := getF X40 hx hZ hown (host := "") (Or.inl (hw _ tw68)) Via.refl e40 c41 (g := (mkF m 77 #[.val (.ref a0_), .val (.ref a1_), .val .null, .val (.int (-1)), .unset] [(.ref a0_), (.int 2), (.ref am)])) rfl rfl (hb hby d9_77)
  refine GoW.st st42 ?_
  show GoW _ _ _ _ _ _ _ (T42.setTop (mkF m 80 _ [(.int 1), (.int 2), (.ref am)]))
  refine GoW.st (t' := T42.setTop (mkF m 84 #[.val (.ref a0_), .val (.ref a1_), .val .null, .val (.int (-1)), .unset] [.null, (.int 3), (.ref am)])) (fun target kt => ?_) ?_
  · refine XS.imul X42.here hx rfl (hb hby d9_80) rfl ?_
    refine XS.iconst X42.here hx rfl (hb hby d9_81) ?_
    refine XS.iadd X42.here hx rfl (hb hby d9_82) rfl ?_
    refine XS.aloadN X42.here hx rfl (hb hby d9_83) rfl rfl ?_
    exact kt
  obtain ⟨cl43, Ar43, q43, S43, M43, H43, G43⟩ := id V36
  have hin43 : ¬ ((3 : Int32) < 0 ∨ cl43.slots.size ≤ ((3 : Int32)).toNatClampNeg) := inb_of S43 ⟨by decide, by decide⟩
  obtain ⟨T43, h43, X43, e43, W43, st43⟩ := stR X42 hx hZ e42 Ar43 (j := (3 : Int32)) hin43 rfl (Or.inl rfl) (g := (mkF m 84 #[.val (.ref a0_), .val (.ref a1_), .val .null, .val (.int (-1)), .unset] [.null, (.int 3), (.ref am)])) rfl rfl (hb hby d9_84)
  have V44 : Arv Z h43 am km (.object sq1) (4 : Int32) [(.ref y0), u0, (.ref a1_), .null] .null := Arv.set Ar43 q43 S43 M43 H43 G43 rfl W43 3 rfl (Nat.le_of_ble_eq_true rfl)
  have K45 := K37.wr W43 (Or.inl (List.mem_of_getElem? (i := 1) rfl))
  have O46 := O38.wr W43 gm
  have N43 := Fr.snoc X43 N35 gm
  refine GoW.st st43 ?_
  show GoW _ _ _ _ _ _ _ (T43.setTop (mkF m 85 _ []))
  refine GoW.st (t' := T43.setTop (mkF m 87 #[.val (.ref a0_), .val (.ref a1_), .val .null, .val (.int (-1)), .unset] [(.ref a0_), (.ref a0_)])) (fun target kt => ?_) ?_
  · refine XS.aloadN X43.here hx rfl (hb hby d9_85) rfl rfl ?_
    refine XS.dup X43.here hx rfl (hb hby d9_86) rfl rfl ?_
    exact kt
  have c47 := c41.other W43 (Or.inl nem)
  obtain ⟨T48, X48, e48, st48⟩ := getF X43 hx hZ hown (host := "") (Or.inl (hw _ tw68)) Via.refl e43 c47 (g := (mkF m 87 #[.val (.ref a0_), .val (.ref a1_), .val .null, .val (.int (-1)), .unset] [(.ref a0_), (.ref a0_)])) rfl rfl (hb hby d9_87)
  refine GoW.st st48 ?_
  show GoW _ _ _ _ _ _ _ (T48.setTop (mkF m 90 _ [(.int 1), (.ref a0_)]))
  refine GoW.st (t' := T48.setTop (mkF m 92 #[.val (.ref a0_), .val (.ref a1_), .val .null, .val (.int (-1)), .unset] [(.int 2), (.ref a0_)])) (fun target kt => ?_) ?_
  · refine XS.iconst X48.here hx rfl (hb hby d9_90) ?_
    refine XS.iadd X48.here hx rfl (hb hby d9_91) rfl ?_
    exact kt
  have c49 := (c14.wr W35).wr W43
  obtain ⟨T50, h50, X50, e50, W50, st50⟩ := putF X48 hx hZ hown (host := "") (Or.inl (hw _ tw68)) Via.refl e48 c47 c49 (Or.inl (hw _ tw69)) (hw _ tw1) (ty := .int) (by decide) rfl rfl (g := (mkF m 92 #[.val (.ref a0_), .val (.ref a1_), .val .null, .val (.int (-1)), .unset] [(.int 2), (.ref a0_)])) rfl rfl (hb hby d9_92)
  have F51 : Fld Z h50 a0_ sq0 "size" "I" (.int 2) := c47.same W50
  have K52 := K45.wr W50 (Or.inl (List.mem_of_getElem? (i := 0) rfl))
  have O53 := O46.wr W50 g0
  have N50 := Fr.snoc X50 N43 g0
  refine GoW.st st50 ?_
  show GoW _ _ _ _ _ _ _ (T50.setTop (mkF m 95 _ []))
  refine GoW.st (t' := T50.setTop (mkF m 97 #[.val (.ref a0_), .val (.ref a1_), .val .null, .val (.int (-1)), .unset] [(.ref a0_), (.ref a0_)])) (fun target kt => ?_) ?_
  · refine XS.aloadN X50.here hx rfl (hb hby d9_95) rfl rfl ?_
    refine XS.dup X50.here hx rfl (hb hby d9_96) rfl rfl ?_
    exact kt
  have c54 := ((c18.other W35 (Or.inl nem)).other W43 (Or.inl nem)).other W50 (Or.inr (slot_ne (Or.inl (hw _ tw104)) (Or.inl (hw _ tw69)) (by decide) (t := .int) (t' := .int) (by decide) (by decide)))
  obtain ⟨T55, X55, e55, st55⟩ := getF X50 hx hZ hown (host := "") (Or.inl (hw _ tw103)) Via.refl e50 c54 (g := (mkF m 97 #[.val (.ref a0_), .val (.ref a1_), .val .null, .val (.int (-1)), .unset] [(.ref a0_), (.ref a0_)])) rfl rfl (hb hby d9_97)
  refine GoW.st st55 ?_
  show GoW _ _ _ _ _ _ _ (T55.setTop (mkF m 100 _ [(.int pch), (.ref a0_)]))
  refine GoW.st (t' := T55.setTop (mkF m 102 #[.val (.ref a0_), .val (.ref a1_), .val .null, .val (.int (-1)), .unset] [(.int (pch + (1 : Int32))), (.ref a0_)])) (fun target kt => ?_) ?_
  · refine XS.iconst X55.here hx rfl (hb hby d9_100) ?_
    refine XS.iadd X55.here hx rfl (hb hby d9_101) rfl ?_
    exact kt
  have c56 := c49.wr W50
  obtain ⟨T57, h57, X57, e57, W57, st57⟩ := putF X55 hx hZ hown (host := "") (Or.inl (hw _ tw103)) Via.refl e55 c54 c56 (Or.inl (hw _ tw104)) (hw _ tw1) (ty := .int) (by decide) rfl rfl (g := (mkF m 102 #[.val (.ref a0_), .val (.ref a1_), .val .null, .val (.int (-1)), .unset] [(.int (pch + (1 : Int32))), (.ref a0_)])) rfl rfl (hb hby d9_102)
  have F58 : Fld Z h57 a0_ sq0 "changes" "I" (.int (pch + (1 : Int32))) := c54.same W57
  have K59 := K52.wr W57 (Or.inl (List.mem_of_getElem? (i := 0) rfl))
  have O60 := O53.wr W57 g0
  have N57 := Fr.snoc X57 N50 g0
  refine GoW.st st57 ?_
  show GoW _ _ _ _ _ _ _ (T57.setTop (mkF m 105 _ []))
  refine GoW.st (t' := T57.setTop (mkF m 106 #[.val (.ref a0_), .val (.ref a1_), .val .null, .val (.int (-1)), .unset] [(.ref a0_)])) (fun target kt => ?_) ?_
  · refine XS.aloadN X57.here hx rfl (hb hby d9_105) rfl rfl ?_
    exact kt
  have c61 := (((c16.other W35 (Or.inl nem)).other W43 (Or.inl nem)).other W50 (Or.inr (slot_ne (Or.inl (hw _ tw67)) (Or.inl (hw _ tw69)) (by decide) (t := (.array .int)) (t' := .int) (by decide) (by decide)))).other W57 (Or.inr (slot_ne (Or.inl (hw _ tw67)) (Or.inl (hw _ tw104)) (by decide) (t := (.array .int)) (t' := .int) (by decide) (by decide)))
  obtain ⟨T62, X62, e62, st62⟩ := getF X57 hx hZ hown (host := "") (Or.inl (hw _ tw66)) Via.refl e57 c61 (g := (mkF m 106 #[.val (.ref a0_), .val (.ref a1_), .val .null, .val (.int (-1)), .unset] [(.ref a0_)])) rfl rfl (hb hby d9_106)
  refine GoW.st st62 ?_
  show GoW _ _ _ _ _ _ _ (T62.setTop (mkF m 109 _ [.null]))
  refine GoW.st (t' := T62.setTop (mkF m 126 #[.val (.ref a0_), .val (.ref a1_), .val .null, .val (.int (-1)), .unset] [(.ref a0_)])) (fun target kt => ?_) ?_
  · refine XS.ifnullYes X62.here hx rfl (pc0 := 109) (pc' := 125) rfl (hb hby d9_109) rfl (by decide) (by decide) ?_
    refine XS.aloadN X62.here hx rfl (hb hby d9_125) rfl rfl ?_
    exact kt
  have c63 := F51.other W57 (Or.inr (slot_ne (Or.inl (hw _ tw69)) (Or.inl (hw _ tw104)) (by decide) (t := .int) (t' := .int) (by decide) (by decide)))
  obtain ⟨T64, X64, e64, st64⟩ := getF X62 hx hZ hown (host := "") (Or.inl (hw _ tw68)) Via.refl e62 c63 (g := (mkF m 126 #[.val (.ref a0_), .val (.ref a1_), .val .null, .val (.int (-1)), .unset] [(.ref a0_)])) rfl rfl (hb hby d9_126)
  refine GoW.st st64 ?_
  show GoW _ _ _ _ _ _ _ (T64.setTop (mkF m 129 _ [(.int 2)]))
  refine GoW.st (t' := T64.setTop (mkF m 139 #[.val (.ref a0_), .val (.ref a1_), .val .null, .val (.int (-1)), .unset] [.null])) (fun target kt => ?_) ?_
  · refine XS.bipush X64.here hx rfl (hb hby d9_129) ?_
    refine XS.icmpYes X64.here hx rfl (pc0 := 131) (pc' := 138) rfl (hb hby d9_131) rfl (flt (by decide : ¬ ((8 : Int32) < (2 : Int32)))).2.2.2 (by decide) (by decide) ?_
    refine XS.aconstNull X64.here hx rfl (hb hby d9_138) ?_
    exact kt
  have c65 := c56.wr W57
  have c66 := ((c39.other W43 (Or.inl nem)).other W50 (Or.inr (slot_ne (Or.inl (hw _ tw17)) (Or.inl (hw _ tw69)) (by decide) (t := (.array (.object sq1))) (t' := .int) (by decide) (by decide)))).other W57 (Or.inr (slot_ne (Or.inl (hw _ tw17)) (Or.inl (hw _ tw104)) (by decide) (t := (.array (.object sq1))) (t' := .int) (by decide) (by decide)))
  have c67 := (((c19.wr W35).wr W43).wr W50).wr W57
  have c68 := (V44.other W50 (Ne.symm nem)).other W57 (Ne.symm nem)
  refine GoW.ret X64 hSi (by rw [e64]; exact (Nat.le_trans hk10 (Nat.le_trans (Nat.le_trans (Nat.le_trans (Keep.of_wr W35).1 (Keep.of_wr W43).1) (Keep.of_wr W50).1) (Keep.of_wr W57).1))) (v := some .null) (fun h => by rw [hret] at h; cases h) hlk (fun fs hr => retR X64 hx hret rfl rfl (hb hby d9_139) hr) ?_ (by decide) (by decide)
  show Q9_ne_1_4_n Z a0_ a1_ pch wcs wm am km y0 u0 vn kx xn v0 k0 x0 h0 n0 _ T64.heap _
  rw [e64]
  exact ⟨rfl, N57, K59, c65, c66, c61, c63, F58, c67, c68⟩
theorem ef9_eq_2_4_n (m : MethodId) (x0 : Addr) (x1 : Addr) : entryFrame m #[(.ref x0), (.ref x1), .null] 5 = mkF m 0 #[.val (.ref x0), .val (.ref x1), .val .null, .unset, .unset] [] := by first | (simp [entryFrame, mkF, argsToLocals, Value.category]; done) | rfl
def Q9_eq_2_4_n (Z : State) (a0_ : Addr) (a1_ : Addr) (pch : Int32) (wcs : Int32) (wm : Addr) (am : Addr) (km : ClassId) (y0 : Addr) (u0 : Value) (y1 : Addr) (u1 : Value) (vn : Addr) (kx : ClassId) (xn : Int32) (v0 : Addr) (k0 : ClassId) (x0 : Int32) (h0 : Heap) (n0 : Nat) (v : Option Value) (h : Heap) (L : List Loc) : Prop := v = some u0 ∧ Fr n0 L ∧ Keep h0 h [am] ∧ Arv Z h am km (.object sq1) (4 : Int32) [(.ref y0), .null, (.ref y1), u1] .null
theorem rm9_eq_2_4_n (l : Launch) (Z : State) (a0 : Array Value) (hw : ∀ d ∈ tables_1, d.before a0 Z = true) (ws : List Jvm.Cond) (a0_ : Addr) (a1_ : Addr) (pch : Int32) (wcs : Int32) (wm : Addr) (am : Addr) (km : ClassId) (y0 : Addr) (u0 : Value) (y1 : Addr) (u1 : Value) (vn : Addr) (kx : ClassId) (xn : Int32) (v0 : Addr) (k0 : ClassId) (x0 : Int32) (h0 : Heap) (n0 : Nat) (Z0 : n0 ≤ h0.size) (O0 : Old Z n0 h0) (S_CS : Sta Z Z.heap sq2 "COMPACT_STRINGS" "Z" (.int wcs)) (hcs : ¬ (wcs = (0 : Int32))) (M_AO : MirM Z sq3 wm) (E0 : Exa Z h0 a0_ sq0) (F_m : Fld Z h0 a0_ sq0 "members" sq3 (.ref am)) (F_i : Fld Z h0 a0_ sq0 "index" "[I" .null) (F_s : Fld Z h0 a0_ sq0 "size" "I" (.int 2)) (F_c : Fld Z h0 a0_ sq0 "changes" "I" (.int pch)) (E_m : Exa Z h0 am sq3) (V_m : Arv Z h0 am km (.object sq1) (4 : Int32) [(.ref y0), u0, (.ref y1), u1] .null) (E_a1_ : Exa Z h0 a1_ sq2) (Fv_a1_ : Fld Z h0 a1_ sq2 "value" "[B" (.ref vn)) (Fc_a1_ : Fld Z h0 a1_ sq2 "coder" "B" (.int 0)) (V_a1 : Arv Z h0 vn kx .byte (1 : Int32) [(.int xn)] (.int 0)) (E_y0 : Exa Z h0 y0 sq2) (Fv_y0 : Fld Z h0 y0 sq2 "value" "[B" (.ref v0)) (Fc_y0 : Fld Z h0 y0 sq2 "coder" "B" (.int 0)) (V_y0 : Arv Z h0 v0 k0 .byte (1 : Int32) [(.int x0)] (.int 0)) (ne0 : a1_ ≠ y0) (g0 : n0 ≤ a0_) (gm : n0 ≤ am) (ov : Ovr Z km sq1) (nem : a0_ ≠ am) (hu0 : u0.isRef = true) (hcd0 : xn = x0) :
    MetW l Z ws (⟨sq0, "put", sq4⟩ : MethodName) prog_14_method_5_code 5 (some (.object sq1)) (Rm 3 2 20 44) #[(.ref a0_), (.ref a1_), .null] h0 (Q9_eq_2_4_n Z a0_ a1_ pch wcs wm am km y0 u0 y1 u1 vn kx xn v0 k0 x0 h0 n0) := by
  refine MetW.enter (L0 := #[.val (.ref a0_), .val (.ref a1_), .val .null, .unset, .unset]) (plainFor_of_name pn10) (fun m => ef9_eq_2_4_n m a0_ a1_) ?_
  intro p e s m below meth c s₁ hx hby hml hown hnm hret hlk hZ X0 e0
  have N0 := Fr.nil n0
  have K0 : Keep h0 h0 [am] := Keep.refl h0 _
  have hSi : s.Since s.vm 0 := (State.WarmedH.refl s).since 0
  have wS : ∀ a ∈ Bundle.stringAtoms, a.before a0 Z = true := own_wS hw
  refine GoW.st (t' := s₁.setTop (mkF m 2 #[.val (.ref a0_), .val (.ref a1_), .val .null, .unset, .unset] [(.ref a1_), (.ref a0_)])) (fun target kt => ?_) ?_
  · refine XS.aloadN X0.here hx rfl (hb hby d9_0) rfl rfl ?_
    refine XS.aloadN X0.here hx rfl (hb hby d9_1) rfl rfl ?_
    exact kt
  obtain ⟨b10, T10, h10, k10, X10, e10, E10, hSi, hk10, hZ, hown, st10⟩ := ldcS X0 hx hZ hown (hw _ tw54) wS e0 hSi (Nat.zero_le _) (g := (mkF m 2 #[.val (.ref a0_), .val (.ref a1_), .val .null, .unset, .unset] [(.ref a1_), (.ref a0_)])) rfl (hb hby d9_2) (n := 16) (by decide) (by decide) (by decide) (by decide)
  have K11 := K0.ext E10
  have O12 := O0.ext E10
  refine GoW.st st10 ?_
  show GoW _ _ _ _ _ _ _ (T10.setTop (mkF m 4 _ [(.ref b10), (.ref a1_), (.ref a0_)]))
  obtain ⟨_, _, ⟨T13, L13, k13, n13⟩, -, X13, ⟨Lc13, hQ13, l13, y13, z13⟩, st13⟩ := Jvm.LawKit.callS X10 hx (y := (⟨"java/util/Objects", "requireNonNull", "(Ljava/lang/Object;Ljava/lang/String;)Ljava/lang/Object;"⟩ : MethodName)) hown (mvT hZ (hw _ tw57)) (mvT hZ (hw _ tw58)) (mvT hZ (hw _ tw59)) (mvT hZ (hw _ tw60)) (by decide) (backOf (W := 1) (rm10 l Z a0 hw [] a1_ b10 h10 n0 (Nat.le_trans Z0 K11.1) O12  ) hZ (hw _ tw60) (hw _ tw59) (by decide) (by decide)) (g := (mkF m 4 #[.val (.ref a0_), .val (.ref a1_), .val .null, .unset, .unset] [(.ref b10), (.ref a1_), (.ref a0_)])) rfl (by rw [hml]; rfl) (argsL := [(.ref a1_), (.ref b10)]) (rest := [(.ref a0_)]) (lenOf pd10 rfl) rfl (by show 2 * 0 + _ ≤ _; exact Nat.le_of_eq rfl) (hb hby d9_4) (fun _ _ => ⟨rfl, e10, (by decide : 2 + 0 ≤ _), (by decide : 20 + 0 ≤ _)⟩)
  dsimp only [Pt.U, Pt.locs, Pt.cells, Pt.slots] at X13 l13 y13 z13 st13 hQ13
  subst l13 y13 z13
  obtain ⟨rfl, Nq13, eq13⟩ := hQ13
  have N13 := Fr.app N0 Nq13
  refine GoW.st st13 ?_
  show GoW _ _ _ _ _ _ _ (T13.setTop (mkF m 7 _ [(.ref a1_), (.ref a0_)]))
  have c14 := E0.ext E10
  have c15 := F_m.ext E10
  have c16 := F_i.ext E10
  have c17 := F_s.ext E10
  have c18 := F_c.ext E10
  have c19 := E_m.ext E10
  have c20 := V_m.ext E10
  have c21 := E_a1_.ext E10
  have c22 := Fv_a1_.ext E10
  have c23 := Fc_a1_.ext E10
  have c24 := V_a1.ext E10
  have c25 := E_y0.ext E10
  have c26 := Fv_y0.ext E10
  have c27 := Fc_y0.ext E10
  have c28 := V_y0.ext E10
  obtain ⟨cq29, q29, q29'⟩ := c14.cell
  obtain ⟨_, _, ⟨T29, L29, k29, n29⟩, -, X29, ⟨Lc29, hQ29, l29, y29, z29⟩, st29⟩ := X13.privateBack hx (y := (⟨sq0, "find", "(Ljava/lang/Object;)I"⟩ : MethodName)) hown (mvT hZ (hw _ tw61)) (mvT hZ (hw _ tw62)) (mvT hZ (own_selp (y := (⟨sq0, "find", "(Ljava/lang/Object;)I"⟩ : MethodName)) (hw _ tw1) (hw _ tw63) (hw _ tw62) (by decide))) (Cond.privateMethod_at (mvP hZ (hw _ tw63) (args := #[]))) (mvT hZ (hw _ tw64)) (by decide) (backOf (W := 0) (rm11_eq_2_4 l Z a0 hw [] a0_ a1_ pch wcs am km y0 u0 y1 u1 vn kx xn v0 k0 x0 h10 n0 (Nat.le_trans Z0 K11.1) O12 S_CS hcs c14 c15 c16 c17 c18 c19 c20 c21 c22 c23 c24 c25 c26 c27 c28 ne0 hcd0) hZ (hw _ tw64) (hw _ tw2) (by decide) (by decide)) (g := (mkF m 7 #[.val (.ref a0_), .val (.ref a1_), .val .null, .unset, .unset] [(.ref a1_), (.ref a0_)])) rfl (by rw [hml]; rfl) (Steps.refl _) (a := a0_) (by rw [eq13]; exact q29) q29' (argsL := [(.ref a1_)]) (rest := []) (lenOf pd11 rfl) rfl (by show 2 * 0 + _ ≤ _; exact Nat.le_of_eq rfl) (hb hby d9_7) (fun _ _ => ⟨rfl, eq13, (by decide : 2 + 0 ≤ _), (by decide : 20 + 0 ≤ _)⟩)
  dsimp only [Pt.U, Pt.locs, Pt.cells, Pt.slots] at X29 l29 y29 z29 st29 hQ29
  subst l29 y29 z29
  obtain ⟨rfl, Nq29, eq29⟩ := hQ29
  have N29 := Fr.app N13 Nq29
  refine GoW.by st29 ?_
  show GoW _ _ _ _ _ _ _ (T29.setTop (mkF m 10 _ [(.int 0)]))
  refine GoW.st (t' := T29.setTop (mkF m 16 #[.val (.ref a0_), .val (.ref a1_), .val .null, .val (.int 0), .unset] [(.ref a0_)])) (fun target kt => ?_) ?_
  · refine XS.istoreN X29.here hx rfl (hb hby d9_10) rfl (l' := #[.val (.ref a0_), .val (.ref a1_), .val .null, .val (.int 0), .unset]) rfl ?_
    refine XS.iloadN X29.here hx rfl (hb hby d9_11) rfl ?_
    refine XS.ifNo X29.here hx rfl (hb hby d9_12) rfl ((if0 _ _).trans (flt (by decide : ¬ ((0 : Int32) < (0 : Int32)))).1) ?_
    refine XS.aloadN X29.here hx rfl (hb hby d9_15) rfl rfl ?_
    exact kt
  obtain ⟨T30, X30, e30, st30⟩ := getF X29 hx hZ hown (host := "") (Or.inl (hw _ tw16)) Via.refl eq29 c15 (g := (mkF m 16 #[.val (.ref a0_), .val (.ref a1_), .val .null, .val (.int 0), .unset] [(.ref a0_)])) rfl rfl (hb hby d9_16)
  refine GoW.st st30 ?_
  show GoW _ _ _ _ _ _ _ (T30.setTop (mkF m 19 _ [(.ref am)]))
  obtain ⟨cl31, Ar31, -, S31, M31, H31, -⟩ := id c20
  have hin31 : ¬ ((1 : Int32) < 0 ∨ cl31.slots.size ≤ ((1 : Int32)).toNatClampNeg) := inb_of S31 ⟨by decide, by decide⟩
  have hat31 : cl31.slots[((1 : Int32)).toNatClampNeg]? = some u0 := H31.at hin31 rfl
  refine GoW.st (t' := T30.setTop (mkF m 28 #[.val (.ref a0_), .val (.ref a1_), .val .null, .val (.int 0), .val u0] [(.ref a0_)])) (fun target kt => ?_) ?_
  · refine XS.iconst X30.here hx rfl (hb hby d9_19) ?_
    refine XS.iloadN X30.here hx rfl (hb hby d9_20) rfl ?_
    refine XS.imul X30.here hx rfl (hb hby d9_21) rfl ?_
    refine XS.iconst X30.here hx rfl (hb hby d9_22) ?_
    refine XS.iadd X30.here hx rfl (hb hby d9_23) rfl ?_
    refine X30.aaload hx (j := (1 : Int32)) (v := u0) (by rw [e30]; exact Ar31.1) (State.isArrayOf_alike hZ.alike Ar31.2.1) rfl Ar31.2.2 hin31 hat31 (g := (mkF m 24 #[.val (.ref a0_), .val (.ref a1_), .val .null, .val (.int 0), .unset] [(.int 1), (.ref am)])) rfl rfl (hb hby d9_24) _ ?_
    refine XS.astore X30.here hx rfl (hb hby d9_25) rfl hu0 (l' := #[.val (.ref a0_), .val (.ref a1_), .val .null, .val (.int 0), .val u0]) (by cases u0 <;> first | rfl | exact absurd hu0 Bool.false_ne_true) ?_
    refine XS.aloadN X30.here hx rfl (hb hby d9_27) rfl rfl ?_
    exact kt
  obtain ⟨T32, X32, e32, st32⟩ := getF X30 hx hZ hown (host := "") (Or.inl (hw _ tw16)) Via.refl e30 c15 (g := (mkF m 28 #[.val (.ref a0_), .val (.ref a1_), .val .null, .val (.int 0), .val u0] [(.ref a0_)])) rfl rfl (hb hby d9_28)
  refine GoW.st st32 ?_
  show GoW _ _ _ _ _ _ _ (T32.setTop (mkF m 31 _ [(.ref am)]))
  refine GoW.st (t' := T32.setTop (mkF m 37 #[.val (.ref a0_), .val (.ref a1_), .val .null, .val (.int 0), .val u0] [.null, (.int 1), (.ref am)])) (fun target kt => ?_) ?_
  · refine XS.iconst X32.here hx rfl (hb hby d9_31) ?_
    refine XS.iloadN X32.here hx rfl (hb hby d9_32) rfl ?_
    refine XS.imul X32.here hx rfl (hb hby d9_33) rfl ?_
    refine XS.iconst X32.here hx rfl (hb hby d9_34) ?_
    refine XS.iadd X32.here hx rfl (hb hby d9_35) rfl ?_
    refine XS.aloadN X32.here hx rfl (hb hby d9_36) rfl rfl ?_
    exact kt
  obtain ⟨cl33, Ar33, q33, S33, M33, H33, G33⟩ := id c20
  have hin33 : ¬ ((1 : Int32) < 0 ∨ cl33.slots.size ≤ ((1 : Int32)).toNatClampNeg) := inb_of S33 ⟨by decide, by decide⟩
  obtain ⟨T33, h33, X33, e33, W33, st33⟩ := stR X32 hx hZ e32 Ar33 (j := (1 : Int32)) hin33 rfl (Or.inl rfl) (g := (mkF m 37 #[.val (.ref a0_), .val (.ref a1_), .val .null, .val (.int 0), .val u0] [.null, (.int 1), (.ref am)])) rfl rfl (hb hby d9_37)
  have V34 : Arv Z h33 am km (.object sq1) (4 : Int32) [(.ref y0), .null, (.ref y1), u1] .null := Arv.set Ar33 q33 S33 M33 H33 G33 rfl W33 1 rfl (Nat.le_of_ble_eq_true rfl)
  have K35 := K11.wr W33 (Or.inl (List.mem_of_getElem? (i := 0) rfl))
  have O36 := O12.wr W33 gm
  have N33 := Fr.snoc X33 N29 gm
  refine GoW.st st33 ?_
  show GoW _ _ _ _ _ _ _ (T33.setTop (mkF m 38 _ []))
  refine GoW.st (t' := T33.setTop (mkF m 40 #[.val (.ref a0_), .val (.ref a1_), .val .null, .val (.int 0), .val u0] [u0])) (fun target kt => ?_) ?_
  · refine XS.aload X33.here hx rfl (hb hby d9_38) rfl hu0 ?_
    exact kt
  refine GoW.ret X33 hSi (by rw [e33]; exact (Nat.le_trans hk10 (Keep.of_wr W33).1)) (v := some u0) (fun h => by rw [hret] at h; cases h) hlk (fun fs hr => retR X33 hx hret rfl hu0 (hb hby d9_40) hr) ?_ (by decide) (by decide)
  show Q9_eq_2_4_n Z a0_ a1_ pch wcs wm am km y0 u0 y1 u1 vn kx xn v0 k0 x0 h0 n0 _ T33.heap _
  rw [e33]
  exact ⟨rfl, N33, K35, V34⟩
theorem ef9_ne_eq_2_4_n (m : MethodId) (x0 : Addr) (x1 : Addr) : entryFrame m #[(.ref x0), (.ref x1), .null] 5 = mkF m 0 #[.val (.ref x0), .val (.ref x1), .val .null, .unset, .unset] [] := by first | (simp [entryFrame, mkF, argsToLocals, Value.category]; done) | rfl
def Q9_ne_eq_2_4_n (Z : State) (a0_ : Addr) (a1_ : Addr) (pch : Int32) (wcs : Int32) (wm : Addr) (am : Addr) (km : ClassId) (y0 : Addr) (u0 : Value) (y1 : Addr) (u1 : Value) (vn : Addr) (kx : ClassId) (xn : Int32) (v0 : Addr) (k0 : ClassId) (x0 : Int32) (v1 : Addr) (k1 : ClassId) (x1 : Int32) (h0 : Heap) (n0 : Nat) (v : Option Value) (h : Heap) (L : List Loc) : Prop := v = some u1 ∧ Fr n0 L ∧ Keep h0 h [am] ∧ Arv Z h am km (.object sq1) (4 : Int32) [(.ref y0), u0, (.ref y1), .null] .null
theorem rm9_ne_eq_2_4_n (l : Launch) (Z : State) (a0 : Array Value) (hw : ∀ d ∈ tables_1, d.before a0 Z = true) (ws : List Jvm.Cond) (a0_ : Addr) (a1_ : Addr) (pch : Int32) (wcs : Int32) (wm : Addr) (am : Addr) (km : ClassId) (y0 : Addr) (u0 : Value) (y1 : Addr) (u1 : Value) (vn : Addr) (kx : ClassId) (xn : Int32) (v0 : Addr) (k0 : ClassId) (x0 : Int32) (v1 : Addr) (k1 : ClassId) (x1 : Int32) (h0 : Heap) (n0 : Nat) (Z0 : n0 ≤ h0.size) (O0 : Old Z n0 h0) (S_CS : Sta Z Z.heap sq2 "COMPACT_STRINGS" "Z" (.int wcs)) (hcs : ¬ (wcs = (0 : Int32))) (M_AO : MirM Z sq3 wm) (E0 : Exa Z h0 a0_ sq0) (F_m : Fld Z h0 a0_ sq0 "members" sq3 (.ref am)) (F_i : Fld Z h0 a0_ sq0 "index" "[I" .null) (F_s : Fld Z h0 a0_ sq0 "size" "I" (.int 2)) (F_c : Fld Z h0 a0_ sq0 "changes" "I" (.int pch)) (E_m : Exa Z h0 am sq3) (V_m : Arv Z h0 am km (.object sq1) (4 : Int32) [(.ref y0), u0, (.ref y1), u1] .null) (E_a1_ : Exa Z h0 a1_ sq2) (Fv_a1_ : Fld Z h0 a1_ sq2 "value" "[B" (.ref vn)) (Fc_a1_ : Fld Z h0 a1_ sq2 "coder" "B" (.int 0)) (V_a1 : Arv Z h0 vn kx .byte (1 : Int32) [(.int xn)] (.int 0)) (E_y0 : Exa Z h0 y0 sq2) (Fv_y0 : Fld Z h0 y0 sq2 "value" "[B" (.ref v0)) (Fc_y0 : Fld Z h0 y0 sq2 "coder" "B" (.int 0)) (V_y0 : Arv Z h0 v0 k0 .byte (1 : Int32) [(.int x0)] (.int 0)) (ne0 : a1_ ≠ y0) (E_y1 : Exa Z h0 y1 sq2) (Fv_y1 : Fld Z h0 y1 sq2 "value" "[B" (.ref v1)) (Fc_y1 : Fld Z h0 y1 sq2 "coder" "B" (.int 0)) (V_y1 : Arv Z h0 v1 k1 .byte (1 : Int32) [(.int x1)] (.int 0)) (ne1 : a1_ ≠ y1) (g0 : n0 ≤ a0_) (gm : n0 ≤ am) (ov : Ovr Z km sq1) (nem : a0_ ≠ am) (hu1 : u1.isRef = true) (hcd0 : ¬ (xn = x0)) (hcd1 : xn = x1) :
    MetW l Z ws (⟨sq0, "put", sq4⟩ : MethodName) prog_14_method_5_code 5 (some (.object sq1)) (Rm 3 2 20 44) #[(.ref a0_), (.ref a1_), .null] h0 (Q9_ne_eq_2_4_n Z a0_ a1_ pch wcs wm am km y0 u0 y1 u1 vn kx xn v0 k0 x0 v1 k1 x1 h0 n0) := by
  refine MetW.enter (L0 := #[.val (.ref a0_), .val (.ref a1_), .val .null, .unset, .unset]) (plainFor_of_name pn10) (fun m => ef9_ne_eq_2_4_n m a0_ a1_) ?_
  intro p e s m below meth c s₁ hx hby hml hown hnm hret hlk hZ X0 e0
  have N0 := Fr.nil n0
  have K0 : Keep h0 h0 [am] := Keep.refl h0 _
  have hSi : s.Since s.vm 0 := (State.WarmedH.refl s).since 0
  have wS : ∀ a ∈ Bundle.stringAtoms, a.before a0 Z = true := own_wS hw
  refine GoW.st (t' := s₁.setTop (mkF m 2 #[.val (.ref a0_), .val (.ref a1_), .val .null, .unset, .unset] [(.ref a1_), (.ref a0_)])) (fun target kt => ?_) ?_
  · refine XS.aloadN X0.here hx rfl (hb hby d9_0) rfl rfl ?_
    refine XS.aloadN X0.here hx rfl (hb hby d9_1) rfl rfl ?_
    exact kt
  obtain ⟨b10, T10, h10, k10, X10, e10, E10, hSi, hk10, hZ, hown, st10⟩ := ldcS X0 hx hZ hown (hw _ tw54) wS e0 hSi (Nat.zero_le _) (g := (mkF m 2 #[.val (.ref a0_), .val (.ref a1_), .val .null, .unset, .unset] [(.ref a1_), (.ref a0_)])) rfl (hb hby d9_2) (n := 16) (by decide) (by decide) (by decide) (by decide)
  have K11 := K0.ext E10
  have O12 := O0.ext E10
  refine GoW.st st10 ?_
  show GoW _ _ _ _ _ _ _ (T10.setTop (mkF m 4 _ [(.ref b10), (.ref a1_), (.ref a0_)]))
  obtain ⟨_, _, ⟨T13, L13, k13, n13⟩, -, X13, ⟨Lc13, hQ13, l13, y13, z13⟩, st13⟩ := Jvm.LawKit.callS X10 hx (y := (⟨"java/util/Objects", "requireNonNull", "(Ljava/lang/Object;Ljava/lang/String;)Ljava/lang/Object;"⟩ : MethodName)) hown (mvT hZ (hw _ tw57)) (mvT hZ (hw _ tw58)) (mvT hZ (hw _ tw59)) (mvT hZ (hw _ tw60)) (by decide) (backOf (W := 1) (rm10 l Z a0 hw [] a1_ b10 h10 n0 (Nat.le_trans Z0 K11.1) O12  ) hZ (hw _ tw60) (hw _ tw59) (by decide) (by decide)) (g := (mkF m 4 #[.val (.ref a0_), .val (.ref a1_), .val .null, .unset, .unset] [(.ref b10), (.ref a1_), (.ref a0_)])) rfl (by rw [hml]; rfl) (argsL := [(.ref a1_), (.ref b10)]) (rest := [(.ref a0_)]) (lenOf pd10 rfl) rfl (by show 2 * 0 + _ ≤ _; exact Nat.le_of_eq rfl) (hb hby d9_4) (fun _ _ => ⟨rfl, e10, (by decide : 2 + 0 ≤ _), (by decide : 20 + 0 ≤ _)⟩)
  dsimp only [Pt.U, Pt.locs, Pt.cells, Pt.slots] at X13 l13 y13 z13 st13 hQ13
  subst l13 y13 z13
  obtain ⟨rfl, Nq13, eq13⟩ := hQ13
  have N13 := Fr.app N0 Nq13
  refine GoW.st st13 ?_
  show GoW _ _ _ _ _ _ _ (T13.setTop (mkF m 7 _ [(.ref a1_), (.ref a0_)]))
  have c14 := E0.ext E10
  have c15 := F_m.ext E10
  have c16 := F_i.ext E10
  have c17 := F_s.ext E10
  have c18 := F_c.ext E10
  have c19 := E_m.ext E10
  have c20 := V_m.ext E10
  have c21 := E_a1_.ext E10
  have c22 := Fv_a1_.ext E10
  have c23 := Fc_a1_.ext E10
  have c24 := V_a1.ext E10
  have c25 := E_y0.ext E10
  have c26 := Fv_y0.ext E10
  have c27 := Fc_y0.ext E10
  have c28 := V_y0.ext E10
  have c29 := E_y1.ext E10
  have c30 := Fv_y1.ext E10
  have c31 := Fc_y1.ext E10
  have c32 := V_y1.ext E10
  obtain ⟨cq33, q33, q33'⟩ := c14.cell
  obtain ⟨_, _, ⟨T33, L33, k33, n33⟩, -, X33, ⟨Lc33, hQ33, l33, y33, z33⟩, st33⟩ := X13.privateBack hx (y := (⟨sq0, "find", "(Ljava/lang/Object;)I"⟩ : MethodName)) hown (mvT hZ (hw _ tw61)) (mvT hZ (hw _ tw62)) (mvT hZ (own_selp (y := (⟨sq0, "find", "(Ljava/lang/Object;)I"⟩ : MethodName)) (hw _ tw1) (hw _ tw63) (hw _ tw62) (by decide))) (Cond.privateMethod_at (mvP hZ (hw _ tw63) (args := #[]))) (mvT hZ (hw _ tw64)) (by decide) (backOf (W := 0) (rm11_ne_eq_2_4 l Z a0 hw [] a0_ a1_ pch wcs am km y0 u0 y1 u1 vn kx xn v0 k0 x0 v1 k1 x1 h10 n0 (Nat.le_trans Z0 K11.1) O12 S_CS hcs c14 c15 c16 c17 c18 c19 c20 c21 c22 c23 c24 c25 c26 c27 c28 ne0 c29 c30 c31 c32 ne1 hcd0 hcd1) hZ (hw _ tw64) (hw _ tw2) (by decide) (by decide)) (g := (mkF m 7 #[.val (.ref a0_), .val (.ref a1_), .val .null, .unset, .unset] [(.ref a1_), (.ref a0_)])) rfl (by rw [hml]; rfl) (Steps.refl _) (a := a0_) (by rw [eq13]; exact q33) q33' (argsL := [(.ref a1_)]) (rest := []) (lenOf pd11 rfl) rfl (by show 2 * 0 + _ ≤ _; exact Nat.le_of_eq rfl) (hb hby d9_7) (fun _ _ => ⟨rfl, eq13, (by decide : 2 + 0 ≤ _), (by decide : 20 + 0 ≤ _)⟩)
  dsimp only [Pt.U, Pt.locs, Pt.cells, Pt.slots] at X33 l33 y33 z33 st33 hQ33
  subst l33 y33 z33
  obtain ⟨rfl, Nq33, eq33⟩ := hQ33
  have N33 := Fr.app N13 Nq33
  refine GoW.by st33 ?_
  show GoW _ _ _ _ _ _ _ (T33.setTop (mkF m 10 _ [(.int 1)]))
  refine GoW.st (t' := T33.setTop (mkF m 16 #[.val (.ref a0_), .val (.ref a1_), .val .null, .val (.int 1), .unset] [(.ref a0_)])) (fun target kt => ?_) ?_
  · refine XS.istoreN X33.here hx rfl (hb hby d9_10) rfl (l' := #[.val (.ref a0_), .val (.ref a1_), .val .null, .val (.int 1), .unset]) rfl ?_
    refine XS.iloadN X33.here hx rfl (hb hby d9_11) rfl ?_
    refine XS.ifNo X33.here hx rfl (hb hby d9_12) rfl ((if0 _ _).trans (flt (by decide : ¬ ((1 : Int32) < (0 : Int32)))).1) ?_
    refine XS.aloadN X33.here hx rfl (hb hby d9_15) rfl rfl ?_
    exact kt
  obtain ⟨T34, X34, e34, st34⟩ := getF X33 hx hZ hown (host := "") (Or.inl (hw _ tw16)) Via.refl eq33 c15 (g := (mkF m 16 #[.val (.ref a0_), .val (.ref a1_), .val .null, .val (.int 1), .unset] [(.ref a0_)])) rfl rfl (hb hby d9_16)
  refine GoW.st st34 ?_
  show GoW _ _ _ _ _ _ _ (T34.setTop (mkF m 19 _ [(.ref am)]))
  obtain ⟨cl35, Ar35, -, S35, M35, H35, -⟩ := id c20
  have hin35 : ¬ ((3 : Int32) < 0 ∨ cl35.slots.size ≤ ((3 : Int32)).toNatClampNeg) := inb_of S35 ⟨by decide, by decide⟩
  have hat35 : cl35.slots[((3 : Int32)).toNatClampNeg]? = some u1 := H35.at hin35 rfl
  refine GoW.st (t' := T34.setTop (mkF m 28 #[.val (.ref a0_), .val (.ref a1_), .val .null, .val (.int 1), .val u1] [(.ref a0_)])) (fun target kt => ?_) ?_
  · refine XS.iconst X34.here hx rfl (hb hby d9_19) ?_
    refine XS.iloadN X34.here hx rfl (hb hby d9_20) rfl ?_
    refine XS.imul X34.here hx rfl (hb hby d9_21) rfl ?_
    refine XS.iconst X34.here hx rfl (hb hby d9_22) ?_
    refine XS.iadd X34.here hx rfl (hb hby d9_23) rfl ?_
    refine X34.aaload hx (j := (3 : Int32)) (v := u1) (by rw [e34]; exact Ar35.1) (State.isArrayOf_alike hZ.alike Ar35.2.1) rfl Ar35.2.2 hin35 hat35 (g := (mkF m 24 #[.val (.ref a0_), .val (.ref a1_), .val .null, .val (.int 1), .unset] [(.int 3), (.ref am)])) rfl rfl (hb hby d9_24) _ ?_
    refine XS.astore X34.here hx rfl (hb hby d9_25) rfl hu1 (l' := #[.val (.ref a0_), .val (.ref a1_), .val .null, .val (.int 1), .val u1]) (by cases u1 <;> first | rfl | exact absurd hu1 Bool.false_ne_true) ?_
    refine XS.aloadN X34.here hx rfl (hb hby d9_27) rfl rfl ?_
    exact kt
  obtain ⟨T36, X36, e36, st36⟩ := getF X34 hx hZ hown (host := "") (Or.inl (hw _ tw16)) Via.refl e34 c15 (g := (mkF m 28 #[.val (.ref a0_), .val (.ref a1_), .val .null, .val (.int 1), .val u1] [(.ref a0_)])) rfl rfl (hb hby d9_28)
  refine GoW.st st36 ?_
  show GoW _ _ _ _ _ _ _ (T36.setTop (mkF m 31 _ [(.ref am)]))
  refine GoW.st (t' := T36.setTop (mkF m 37 #[.val (.ref a0_), .val (.ref a1_), .val .null, .val (.int 1), .val u1] [.null, (.int 3), (.ref am)])) (fun target kt => ?_) ?_
  · refine XS.iconst X36.here hx rfl (hb hby d9_31) ?_
    refine XS.iloadN X36.here hx rfl (hb hby d9_32) rfl ?_
    refine XS.imul X36.here hx rfl (hb hby d9_33) rfl ?_
    refine XS.iconst X36.here hx rfl (hb hby d9_34) ?_
    refine XS.iadd X36.here hx rfl (hb hby d9_35) rfl ?_
    refine XS.aloadN X36.here hx rfl (hb hby d9_36) rfl rfl ?_
    exact kt
  obtain ⟨cl37, Ar37, q37, S37, M37, H37, G37⟩ := id c20
  have hin37 : ¬ ((3 : Int32) < 0 ∨ cl37.slots.size ≤ ((3 : Int32)).toNatClampNeg) := inb_of S37 ⟨by decide, by decide⟩
  obtain ⟨T37, h37, X37, e37, W37, st37⟩ := stR X36 hx hZ e36 Ar37 (j := (3 : Int32)) hin37 rfl (Or.inl rfl) (g := (mkF m 37 #[.val (.ref a0_), .val (.ref a1_), .val .null, .val (.int 1), .val u1] [.null, (.int 3), (.ref am)])) rfl rfl (hb hby d9_37)
  have V38 : Arv Z h37 am km (.object sq1) (4 : Int32) [(.ref y0), u0, (.ref y1), .null] .null := Arv.set Ar37 q37 S37 M37 H37 G37 rfl W37 3 rfl (Nat.le_of_ble_eq_true rfl)
  have K39 := K11.wr W37 (Or.inl (List.mem_of_getElem? (i := 0) rfl))
  have O40 := O12.wr W37 gm
  have N37 := Fr.snoc X37 N33 gm
  refine GoW.st st37 ?_
  show GoW _ _ _ _ _ _ _ (T37.setTop (mkF m 38 _ []))
  refine GoW.st (t' := T37.setTop (mkF m 40 #[.val (.ref a0_), .val (.ref a1_), .val .null, .val (.int 1), .val u1] [u1])) (fun target kt => ?_) ?_
  · refine XS.aload X37.here hx rfl (hb hby d9_38) rfl hu1 ?_
    exact kt
  refine GoW.ret X37 hSi (by rw [e37]; exact (Nat.le_trans hk10 (Keep.of_wr W37).1)) (v := some u1) (fun h => by rw [hret] at h; cases h) hlk (fun fs hr => retR X37 hx hret rfl hu1 (hb hby d9_40) hr) ?_ (by decide) (by decide)
  show Q9_ne_eq_2_4_n Z a0_ a1_ pch wcs wm am km y0 u0 y1 u1 vn kx xn v0 k0 x0 v1 k1 x1 h0 n0 _ T37.heap _
  rw [e37]
  exact ⟨rfl, N37, K39, V38⟩
theorem ef9_ne_ne_2_4_n (m : MethodId) (x0 : Addr) (x1 : Addr) : entryFrame m #[(.ref x0), (.ref x1), .null] 5 = mkF m 0 #[.val (.ref x0), .val (.ref x1), .val .null, .unset, .unset] [] := by first | (simp [entryFrame, mkF, argsToLocals, Value.category]; done) | rfl
def Q9_ne_ne_2_4_n (Z : State) (a0_ : Addr) (a1_ : Addr) (pch : Int32) (wcs : Int32) (wm : Addr) (am : Addr) (km : ClassId) (y0 : Addr) (u0 : Addr) (y1 : Addr) (u1 : Addr) (vn : Addr) (kx : ClassId) (xn : Int32) (v0 : Addr) (k0 : ClassId) (x0 : Int32) (v1 : Addr) (k1 : ClassId) (x1 : Int32) (h0 : Heap) (n0 : Nat) (v : Option Value) (h : Heap) (L : List Loc) : Prop := ∃ (b : Addr) (kb : ClassId), v = some .null ∧ Fr n0 L ∧ Keep h0 h [a0_] ∧ h0.size ≤ b ∧ Ovr Z kb sq1 ∧ Exa Z h a0_ sq0 ∧ Fld Z h a0_ sq0 "members" sq3 (.ref b) ∧ Fld Z h a0_ sq0 "index" "[I" .null ∧ Fld Z h a0_ sq0 "size" "I" (.int 3) ∧ Fld Z h a0_ sq0 "changes" "I" (.int (pch + (1 : Int32))) ∧ Exa Z h b sq3 ∧ Arv Z h b kb (.object sq1) (6 : Int32) [(.ref y0), (.ref u0), (.ref y1), (.ref u1), (.ref a1_), .null] .null
theorem rm9_ne_ne_2_4_n (l : Launch) (Z : State) (a0 : Array Value) (hw : ∀ d ∈ tables_1, d.before a0 Z = true) (ws : List Jvm.Cond) (a0_ : Addr) (a1_ : Addr) (pch : Int32) (wcs : Int32) (wm : Addr) (am : Addr) (km : ClassId) (y0 : Addr) (u0 : Addr) (y1 : Addr) (u1 : Addr) (vn : Addr) (kx : ClassId) (xn : Int32) (v0 : Addr) (k0 : ClassId) (x0 : Int32) (v1 : Addr) (k1 : ClassId) (x1 : Int32) (h0 : Heap) (n0 : Nat) (Z0 : n0 ≤ h0.size) (O0 : Old Z n0 h0) (S_CS : Sta Z Z.heap sq2 "COMPACT_STRINGS" "Z" (.int wcs)) (hcs : ¬ (wcs = (0 : Int32))) (M_AO : MirM Z sq3 wm) (E0 : Exa Z h0 a0_ sq0) (F_m : Fld Z h0 a0_ sq0 "members" sq3 (.ref am)) (F_i : Fld Z h0 a0_ sq0 "index" "[I" .null) (F_s : Fld Z h0 a0_ sq0 "size" "I" (.int 2)) (F_c : Fld Z h0 a0_ sq0 "changes" "I" (.int pch)) (E_m : Exa Z h0 am sq3) (V_m : Arv Z h0 am km (.object sq1) (4 : Int32) [(.ref y0), (.ref u0), (.ref y1), (.ref u1)] .null) (E_a1_ : Exa Z h0 a1_ sq2) (Fv_a1_ : Fld Z h0 a1_ sq2 "value" "[B" (.ref vn)) (Fc_a1_ : Fld Z h0 a1_ sq2 "coder" "B" (.int 0)) (V_a1 : Arv Z h0 vn kx .byte (1 : Int32) [(.int xn)] (.int 0)) (E_y0 : Exa Z h0 y0 sq2) (Fv_y0 : Fld Z h0 y0 sq2 "value" "[B" (.ref v0)) (Fc_y0 : Fld Z h0 y0 sq2 "coder" "B" (.int 0)) (V_y0 : Arv Z h0 v0 k0 .byte (1 : Int32) [(.int x0)] (.int 0)) (ne0 : a1_ ≠ y0) (E_y1 : Exa Z h0 y1 sq2) (Fv_y1 : Fld Z h0 y1 sq2 "value" "[B" (.ref v1)) (Fc_y1 : Fld Z h0 y1 sq2 "coder" "B" (.int 0)) (V_y1 : Arv Z h0 v1 k1 .byte (1 : Int32) [(.int x1)] (.int 0)) (ne1 : a1_ ≠ y1) (g0 : n0 ≤ a0_) (gm : n0 ≤ am) (ov : Ovr Z km sq1) (nem : a0_ ≠ am) (E_u0 : Exa Z h0 u0 "java/lang/Integer") (E_u1 : Exa Z h0 u1 "java/lang/Integer") (hcd0 : ¬ (xn = x0)) (hcd1 : ¬ (xn = x1)) :
    MetW l Z ws (⟨sq0, "put", sq4⟩ : MethodName) prog_14_method_5_code 5 (some (.object sq1)) (Rm 4 3 26 60) #[(.ref a0_), (.ref a1_), .null] h0 (Q9_ne_ne_2_4_n Z a0_ a1_ pch wcs wm am km y0 u0 y1 u1 vn kx xn v0 k0 x0 v1 k1 x1 h0 n0) := by
  refine MetW.enter (L0 := #[.val (.ref a0_), .val (.ref a1_), .val .null, .unset, .unset]) (plainFor_of_name pn10) (fun m => ef9_ne_ne_2_4_n m a0_ a1_) ?_
  intro p e s m below meth c s₁ hx hby hml hown hnm hret hlk hZ X0 e0
  have N0 := Fr.nil n0
  have K0 : Keep h0 h0 [a0_] := Keep.refl h0 _
  have hSi : s.Since s.vm 0 := (State.WarmedH.refl s).since 0
  have wS : ∀ a ∈ Bundle.stringAtoms, a.before a0 Z = true := own_wS hw
  refine GoW.st (t' := s₁.setTop (mkF m 2 #[.val (.ref a0_), .val (.ref a1_), .val .null, .unset, .unset] [(.ref a1_), (.ref a0_)])) (fun target kt => ?_) ?_
  · refine XS.aloadN X0.here hx rfl (hb hby d9_0) rfl rfl ?_
    refine XS.aloadN X0.here hx rfl (hb hby d9_1) rfl rfl ?_
    exact kt
  obtain ⟨b10, T10, h10, k10, X10, e10, E10, hSi, hk10, hZ, hown, st10⟩ := ldcS X0 hx hZ hown (hw _ tw54) wS e0 hSi (Nat.zero_le _) (g := (mkF m 2 #[.val (.ref a0_), .val (.ref a1_), .val .null, .unset, .unset] [(.ref a1_), (.ref a0_)])) rfl (hb hby d9_2) (n := 16) (by decide) (by decide) (by decide) (by decide)
  have K11 := K0.ext E10
  have O12 := O0.ext E10
  refine GoW.st st10 ?_
  show GoW _ _ _ _ _ _ _ (T10.setTop (mkF m 4 _ [(.ref b10), (.ref a1_), (.ref a0_)]))
  obtain ⟨_, _, ⟨T13, L13, k13, n13⟩, -, X13, ⟨Lc13, hQ13, l13, y13, z13⟩, st13⟩ := Jvm.LawKit.callS X10 hx (y := (⟨"java/util/Objects", "requireNonNull", "(Ljava/lang/Object;Ljava/lang/String;)Ljava/lang/Object;"⟩ : MethodName)) hown (mvT hZ (hw _ tw57)) (mvT hZ (hw _ tw58)) (mvT hZ (hw _ tw59)) (mvT hZ (hw _ tw60)) (by decide) (backOf (W := 1) (rm10 l Z a0 hw [] a1_ b10 h10 n0 (Nat.le_trans Z0 K11.1) O12  ) hZ (hw _ tw60) (hw _ tw59) (by decide) (by decide)) (g := (mkF m 4 #[.val (.ref a0_), .val (.ref a1_), .val .null, .unset, .unset] [(.ref b10), (.ref a1_), (.ref a0_)])) rfl (by rw [hml]; rfl) (argsL := [(.ref a1_), (.ref b10)]) (rest := [(.ref a0_)]) (lenOf pd10 rfl) rfl (by show 2 * 0 + _ ≤ _; exact Nat.le_of_eq rfl) (hb hby d9_4) (fun _ _ => ⟨rfl, e10, (by decide : 2 + 0 ≤ _), (by decide : 20 + 0 ≤ _)⟩)
  dsimp only [Pt.U, Pt.locs, Pt.cells, Pt.slots] at X13 l13 y13 z13 st13 hQ13
  subst l13 y13 z13
  obtain ⟨rfl, Nq13, eq13⟩ := hQ13
  have N13 := Fr.app N0 Nq13
  refine GoW.st st13 ?_
  show GoW _ _ _ _ _ _ _ (T13.setTop (mkF m 7 _ [(.ref a1_), (.ref a0_)]))
  have c14 := E0.ext E10
  have c15 := F_m.ext E10
  have c16 := F_i.ext E10
  have c17 := F_s.ext E10
  have c18 := F_c.ext E10
  have c19 := E_m.ext E10
  have c20 := V_m.ext E10
  have c21 := E_a1_.ext E10
  have c22 := Fv_a1_.ext E10
  have c23 := Fc_a1_.ext E10
  have c24 := V_a1.ext E10
  have c25 := E_y0.ext E10
  have c26 := Fv_y0.ext E10
  have c27 := Fc_y0.ext E10
  have c28 := V_y0.ext E10
  have c29 := E_y1.ext E10
  have c30 := Fv_y1.ext E10
  have c31 := Fc_y1.ext E10
  have c32 := V_y1.ext E10
  obtain ⟨cq33, q33, q33'⟩ := c14.cell
  obtain ⟨_, _, ⟨T33, L33, k33, n33⟩, -, X33, ⟨Lc33, hQ33, l33, y33, z33⟩, st33⟩ := X13.privateBack hx (y := (⟨sq0, "find", "(Ljava/lang/Object;)I"⟩ : MethodName)) hown (mvT hZ (hw _ tw61)) (mvT hZ (hw _ tw62)) (mvT hZ (own_selp (y := (⟨sq0, "find", "(Ljava/lang/Object;)I"⟩ : MethodName)) (hw _ tw1) (hw _ tw63) (hw _ tw62) (by decide))) (Cond.privateMethod_at (mvP hZ (hw _ tw63) (args := #[]))) (mvT hZ (hw _ tw64)) (by decide) (backOf (W := 0) (rm11_ne_ne_2_4 l Z a0 hw [] a0_ a1_ pch wcs am km y0 (.ref u0) y1 (.ref u1) vn kx xn v0 k0 x0 v1 k1 x1 h10 n0 (Nat.le_trans Z0 K11.1) O12 S_CS hcs c14 c15 c16 c17 c18 c19 c20 c21 c22 c23 c24 c25 c26 c27 c28 ne0 c29 c30 c31 c32 ne1 hcd0 hcd1) hZ (hw _ tw64) (hw _ tw2) (by decide) (by decide)) (g := (mkF m 7 #[.val (.ref a0_), .val (.ref a1_), .val .null, .unset, .unset] [(.ref a1_), (.ref a0_)])) rfl (by rw [hml]; rfl) (Steps.refl _) (a := a0_) (by rw [eq13]; exact q33) q33' (argsL := [(.ref a1_)]) (rest := []) (lenOf pd11 rfl) rfl (by show 2 * 0 + _ ≤ _; exact Nat.le_of_eq rfl) (hb hby d9_7) (fun _ _ => ⟨rfl, eq13, (by decide : 2 + 0 ≤ _), (by decide : 20 + 0 ≤ _)⟩)
  dsimp only [Pt.U, Pt.locs, Pt.cells, Pt.slots] at X33 l33 y33 z33 st33 hQ33
  subst l33 y33 z33
  obtain ⟨rfl, Nq33, eq33⟩ := hQ33
  have N33 := Fr.app N13 Nq33
  refine GoW.by st33 ?_
  show GoW _ _ _ _ _ _ _ (T33.setTop (mkF m 10 _ [(.int (-1))]))
  refine GoW.st (t' := T33.setTop (mkF m 43 #[.val (.ref a0_), .val (.ref a1_), .val .null, .val (.int (-1)), .unset] [(.ref a0_), (.int 2)])) (fun target kt => ?_) ?_
  · refine XS.istoreN X33.here hx rfl (hb hby d9_10) rfl (l' := #[.val (.ref a0_), .val (.ref a1_), .val .null, .val (.int (-1)), .unset]) rfl ?_
    refine XS.iloadN X33.here hx rfl (hb hby d9_11) rfl ?_
    refine XS.ifYes X33.here hx rfl (pc0 := 12) (pc' := 41) rfl (hb hby d9_12) rfl ((if0 _ _).trans (tlt (by decide : (-1 : Int32) < (0 : Int32))).1) (by decide) (by decide) ?_
    refine XS.iconst X33.here hx rfl (hb hby d9_41) ?_
    refine XS.aloadN X33.here hx rfl (hb hby d9_42) rfl rfl ?_
    exact kt
  obtain ⟨T34, X34, e34, st34⟩ := getF X33 hx hZ hown (host := "") (Or.inl (hw _ tw68)) Via.refl eq33 c17 (g := (mkF m 43 #[.val (.ref a0_), .val (.ref a1_), .val .null, .val (.int (-1)), .unset] [(.ref a0_), (.int 2)])) rfl rfl (hb hby d9_43)
  refine GoW.st st34 ?_
  show GoW _ _ _ _ _ _ _ (T34.setTop (mkF m 46 _ [(.int 2), (.int 2)]))
  refine GoW.st (t' := T34.setTop (mkF m 48 #[.val (.ref a0_), .val (.ref a1_), .val .null, .val (.int (-1)), .unset] [(.ref a0_), (.int 4)])) (fun target kt => ?_) ?_
  · refine XS.imul X34.here hx rfl (hb hby d9_46) rfl ?_
    refine XS.aloadN X34.here hx rfl (hb hby d9_47) rfl rfl ?_
    exact kt
  obtain ⟨T35, X35, e35, st35⟩ := getF X34 hx hZ hown (host := "") (Or.inl (hw _ tw16)) Via.refl e34 c15 (g := (mkF m 48 #[.val (.ref a0_), .val (.ref a1_), .val .null, .val (.int (-1)), .unset] [(.ref a0_), (.int 4)])) rfl rfl (hb hby d9_48)
  refine GoW.st st35 ?_
  show GoW _ _ _ _ _ _ _ (T35.setTop (mkF m 51 _ [(.ref am), (.int 4)]))
  obtain ⟨cl36, Ar36, -, S36, M36, -, -⟩ := id c20
  refine GoW.st (t' := T35.setTop (mkF m 56 #[.val (.ref a0_), .val (.ref a1_), .val .null, .val (.int (-1)), .unset] [(.ref a0_)])) (fun target kt => ?_) ?_
  · refine X35.arraylength hx (by rw [e35]; exact Ar36.1) (State.isArrayOf_alike hZ.alike Ar36.2.1) (g := (mkF m 51 #[.val (.ref a0_), .val (.ref a1_), .val .null, .val (.int (-1)), .unset] [(.ref am), (.int 4)])) rfl rfl (hb hby d9_51) _ ?_
    rw [len_of S36 M36]
    refine XS.icmpNo X35.here hx rfl (hb hby d9_52) rfl (teq (by decide : (4 : Int32) = (4 : Int32))).2 ?_
    refine XS.aloadN X35.here hx rfl (hb hby d9_55) rfl rfl ?_
    exact kt
  have c37 := E_u0.ext E10
  have c38 := E_u1.ext E10
  obtain ⟨cq39, q39, q39'⟩ := c14.cell
  obtain ⟨_, _, ⟨T39, L39, k39, n39⟩, -, X39, ⟨Lc39, hQ39, l39, y39, z39⟩, st39⟩ := X35.privateBack hx (y := (⟨sq0, "grow", "()V"⟩ : MethodName)) hown (mvT hZ (hw _ tw70)) (mvT hZ (hw _ tw71)) (mvT hZ (own_selp (y := (⟨sq0, "grow", "()V"⟩ : MethodName)) (hw _ tw1) (hw _ tw72) (hw _ tw71) (by decide))) (Cond.privateMethod_at (mvP hZ (hw _ tw72) (args := #[]))) (mvT hZ (hw _ tw73)) (by decide) (backOf (W := 0) (rm12_4 l Z a0 hw [] a0_ wm am km y0 u0 y1 u1 pch h10 n0 (Nat.le_trans Z0 K11.1) O12 M_AO c14 c15 c16 c17 c18 c19 c20 c25 c29 c37 c38 g0) hZ (hw _ tw73) (hw _ tw2) (by decide) (by decide)) (g := (mkF m 56 #[.val (.ref a0_), .val (.ref a1_), .val .null, .val (.int (-1)), .unset] [(.ref a0_)])) rfl (by rw [hml]; rfl) (Steps.refl _) (a := a0_) (by rw [e35]; exact q39) q39' (argsL := []) (rest := []) (lenOf pd0 rfl) rfl (by show 2 * 0 + _ ≤ _; exact Nat.le_of_eq rfl) (hb hby d9_56) (fun _ _ => ⟨rfl, e35, (by decide : 2 + 1 ≤ _), (by decide : 20 + 6 ≤ _)⟩)
  dsimp only [Pt.U, Pt.locs, Pt.cells, Pt.slots] at X39 l39 y39 z39 st39 hQ39
  subst l39 y39 z39
  obtain ⟨b40, k41, rfl, Nq39, Kq39, q42, q43, q44, q45, q46, q47, q48, q49, q50⟩ := hQ39
  have N39 := Fr.app N33 Nq39
  have sz51 : h0.size ≤ b40 := Nat.le_trans K11.1 q42
  have g52 : n0 ≤ b40 := Nat.le_trans Z0 sz51
  have K53 := K11.trans Kq39 (allS (Or.inl (List.mem_of_getElem? (i := 0) rfl)) all0)
  have O54 := O12.keep Kq39 (allS g0 all0)
  refine GoW.by st39 ?_
  show GoW _ _ _ _ _ _ _ (T39.setTop (mkF m 59 _ []))
  refine GoW.st (t' := T39.setTop (mkF m 60 #[.val (.ref a0_), .val (.ref a1_), .val .null, .val (.int (-1)), .unset] [(.ref a0_)])) (fun target kt => ?_) ?_
  · refine XS.aloadN X39.here hx rfl (hb hby d9_59) rfl rfl ?_
    exact kt
  obtain ⟨T55, X55, e55, st55⟩ := getF X39 hx hZ hown (host := "") (Or.inl (hw _ tw16)) Via.refl rfl q45 (g := (mkF m 60 #[.val (.ref a0_), .val (.ref a1_), .val .null, .val (.int (-1)), .unset] [(.ref a0_)])) rfl rfl (hb hby d9_60)
  refine GoW.st st55 ?_
  show GoW _ _ _ _ _ _ _ (T55.setTop (mkF m 63 _ [(.ref b40)]))
  refine GoW.st (t' := T55.setTop (mkF m 65 #[.val (.ref a0_), .val (.ref a1_), .val .null, .val (.int (-1)), .unset] [(.ref a0_), (.int 2), (.ref b40)])) (fun target kt => ?_) ?_
  · refine XS.iconst X55.here hx rfl (hb hby d9_63) ?_
    refine XS.aloadN X55.here hx rfl (hb hby d9_64) rfl rfl ?_
    exact kt
  obtain ⟨T56, X56, e56, st56⟩ := getF X55 hx hZ hown (host := "") (Or.inl (hw _ tw68)) Via.refl e55 q47 (g := (mkF m 65 #[.val (.ref a0_), .val (.ref a1_), .val .null, .val (.int (-1)), .unset] [(.ref a0_), (.int 2), (.ref b40)])) rfl rfl (hb hby d9_65)
  refine GoW.st st56 ?_
  show GoW _ _ _ _ _ _ _ (T56.setTop (mkF m 68 _ [(.int 2), (.int 2), (.ref b40)]))
  refine GoW.st (t' := T56.setTop (mkF m 70 #[.val (.ref a0_), .val (.ref a1_), .val .null, .val (.int (-1)), .unset] [(.ref a1_), (.int 4), (.ref b40)])) (fun target kt => ?_) ?_
  · refine XS.imul X56.here hx rfl (hb hby d9_68) rfl ?_
    refine XS.aloadN X56.here hx rfl (hb hby d9_69) rfl rfl ?_
    exact kt
  obtain ⟨cl57, Ar57, q57, S57, M57, H57, G57⟩ := id q50
  have hin57 : ¬ ((4 : Int32) < 0 ∨ cl57.slots.size ≤ ((4 : Int32)).toNatClampNeg) := inb_of S57 ⟨by decide, by decide⟩
  have c58 := c21.keep Kq39
  obtain ⟨T57, h57, X57, e57, W57, st57⟩ := stR X56 hx hZ e56 Ar57 (j := (4 : Int32)) hin57 rfl (Sto.ofV Ar57 q57 q43 (Ins.of_exa c58 (hw _ tw101))) (g := (mkF m 70 #[.val (.ref a0_), .val (.ref a1_), .val .null, .val (.int (-1)), .unset] [(.ref a1_), (.int 4), (.ref b40)])) rfl rfl (hb hby d9_70)
  have V59 : Arv Z h57 b40 k41 (.object sq1) (6 : Int32) [(.ref y0), (.ref u0), (.ref y1), (.ref u1), (.ref a1_), .null] .null := Arv.set Ar57 q57 S57 M57 H57 G57 rfl W57 4 rfl (Nat.le_of_ble_eq_true rfl)
  have K60 := K53.wr W57 (Or.inr sz51)
  have O61 := O54.wr W57 g52
  have N57 := Fr.snoc X57 N39 g52
  refine GoW.st st57 ?_
  show GoW _ _ _ _ _ _ _ (T57.setTop (mkF m 71 _ []))
  refine GoW.st (t' := T57.setTop (mkF m 72 #[.val (.ref a0_), .val (.ref a1_), .val .null, .val (.int (-1)), .unset] [(.ref a0_)])) (fun target kt => ?_) ?_
  · refine XS.aloadN X57.here hx rfl (hb hby d9_71) rfl rfl ?_
    exact kt
  have o62 : a0_ < b40 := Nat.lt_of_lt_of_le E0.lt (Nat.le_trans E10.1 q42)
  have ne63 : a0_ ≠ b40 := Nat.ne_of_lt o62
  have c64 := q45.other W57 (Or.inl ne63)
  obtain ⟨T65, X65, e65, st65⟩ := getF X57 hx hZ hown (host := "") (Or.inl (hw _ tw16)) Via.refl e57 c64 (g := (mkF m 72 #[.val (.ref a0_), .val (.ref a1_), .val .null, .val (.int (-1)), .unset] [(.ref a0_)])) rfl rfl (hb hby d9_72)
  refine GoW.st st65 ?_
  show GoW _ _ _ _ _ _ _ (T65.setTop (mkF m 75 _ [(.ref b40)]))
  refine GoW.st (t' := T65.setTop (mkF m 77 #[.val (.ref a0_), .val (.ref a1_), .val .null, .val (.int (-1)), .unset] [(.ref a0_), (.int 2), (.ref b40)])) (fun target kt => ?_) ?_
  · refine XS.iconst X65.here hx rfl (hb hby d9_75) ?_
    refine XS.aloadN X65.here hx rfl (hb hby d9_76) rfl rfl ?_
    exact kt
  have c66 := q47.other W57 (Or.inl ne63)
  obtain ⟨T67, X67, e67, st67⟩ := getF X65 hx hZ hown (host := "") (Or.inl (hw _ tw68)) Via.refl e65 c66 (g := (mkF m 77 #[.val (.ref a0_), .val (.ref a1_), .val .null, .val (.int (-1)), .unset] [(.ref a0_), (.int 2), (.ref b40)])) rfl rfl (hb hby d9_77)
  refine GoW.st st67 ?_
  show GoW _ _ _ _ _ _ _ (T67.setTop (mkF m 80 _ [(.int 2), (.int 2), (.ref b40)]))
  refine GoW.st (t' := T67.setTop (mkF m 84 #[.val (.ref a0_), .val (.ref a1_), .val .null, .val (.int (-1)), .unset] [.null, (.int 5), (.ref b40)])) (fun target kt => ?_) ?_
  · refine XS.imul X67.here hx rfl (hb hby d9_80) rfl ?_
    refine XS.iconst X67.here hx rfl (hb hby d9_81) ?_
    refine XS.iadd X67.here hx rfl (hb hby d9_82) rfl ?_
    refine XS.aloadN X67.here hx rfl (hb hby d9_83) rfl rfl ?_
    exact kt
  obtain ⟨cl68, Ar68, q68, S68, M68, H68, G68⟩ := id V59
  have hin68 : ¬ ((5 : Int32) < 0 ∨ cl68.slots.size ≤ ((5 : Int32)).toNatClampNeg) := inb_of S68 ⟨by decide, by decide⟩
  obtain ⟨T68, h68, X68, e68, W68, st68⟩ := stR X67 hx hZ e67 Ar68 (j := (5 : Int32)) hin68 rfl (Or.inl rfl) (g := (mkF m 84 #[.val (.ref a0_), .val (.ref a1_), .val .null, .val (.int (-1)), .unset] [.null, (.int 5), (.ref b40)])) rfl rfl (hb hby d9_84)
  have V69 : Arv Z h68 b40 k41 (.object sq1) (6 : Int32) [(.ref y0), (.ref u0), (.ref y1), (.ref u1), (.ref a1_), .null] .null := Arv.set Ar68 q68 S68 M68 H68 G68 rfl W68 5 rfl (Nat.le_of_ble_eq_true rfl)
  have K70 := K60.wr W68 (Or.inr sz51)
  have O71 := O61.wr W68 g52
  have N68 := Fr.snoc X68 N57 g52
  refine GoW.st st68 ?_
  show GoW _ _ _ _ _ _ _ (T68.setTop (mkF m 85 _ []))
  refine GoW.st (t' := T68.setTop (mkF m 87 #[.val (.ref a0_), .val (.ref a1_), .val .null, .val (.int (-1)), .unset] [(.ref a0_), (.ref a0_)])) (fun target kt => ?_) ?_
  · refine XS.aloadN X68.here hx rfl (hb hby d9_85) rfl rfl ?_
    refine XS.dup X68.here hx rfl (hb hby d9_86) rfl rfl ?_
    exact kt
  have c72 := c66.other W68 (Or.inl ne63)
  obtain ⟨T73, X73, e73, st73⟩ := getF X68 hx hZ hown (host := "") (Or.inl (hw _ tw68)) Via.refl e68 c72 (g := (mkF m 87 #[.val (.ref a0_), .val (.ref a1_), .val .null, .val (.int (-1)), .unset] [(.ref a0_), (.ref a0_)])) rfl rfl (hb hby d9_87)
  refine GoW.st st73 ?_
  show GoW _ _ _ _ _ _ _ (T73.setTop (mkF m 90 _ [(.int 2), (.ref a0_)]))
  refine GoW.st (t' := T73.setTop (mkF m 92 #[.val (.ref a0_), .val (.ref a1_), .val .null, .val (.int (-1)), .unset] [(.int 3), (.ref a0_)])) (fun target kt => ?_) ?_
  · refine XS.iconst X73.here hx rfl (hb hby d9_90) ?_
    refine XS.iadd X73.here hx rfl (hb hby d9_91) rfl ?_
    exact kt
  have c74 := (q44.wr W57).wr W68
  obtain ⟨T75, h75, X75, e75, W75, st75⟩ := putF X73 hx hZ hown (host := "") (Or.inl (hw _ tw68)) Via.refl e73 c72 c74 (Or.inl (hw _ tw69)) (hw _ tw1) (ty := .int) (by decide) rfl rfl (g := (mkF m 92 #[.val (.ref a0_), .val (.ref a1_), .val .null, .val (.int (-1)), .unset] [(.int 3), (.ref a0_)])) rfl rfl (hb hby d9_92)
  have F76 : Fld Z h75 a0_ sq0 "size" "I" (.int 3) := c72.same W75
  have K77 := K70.wr W75 (Or.inl (List.mem_of_getElem? (i := 0) rfl))
  have O78 := O71.wr W75 g0
  have N75 := Fr.snoc X75 N68 g0
  refine GoW.st st75 ?_
  show GoW _ _ _ _ _ _ _ (T75.setTop (mkF m 95 _ []))
  refine GoW.st (t' := T75.setTop (mkF m 97 #[.val (.ref a0_), .val (.ref a1_), .val .null, .val (.int (-1)), .unset] [(.ref a0_), (.ref a0_)])) (fun target kt => ?_) ?_
  · refine XS.aloadN X75.here hx rfl (hb hby d9_95) rfl rfl ?_
    refine XS.dup X75.here hx rfl (hb hby d9_96) rfl rfl ?_
    exact kt
  have c79 := ((q48.other W57 (Or.inl ne63)).other W68 (Or.inl ne63)).other W75 (Or.inr (slot_ne (Or.inl (hw _ tw104)) (Or.inl (hw _ tw69)) (by decide) (t := .int) (t' := .int) (by decide) (by decide)))
  obtain ⟨T80, X80, e80, st80⟩ := getF X75 hx hZ hown (host := "") (Or.inl (hw _ tw103)) Via.refl e75 c79 (g := (mkF m 97 #[.val (.ref a0_), .val (.ref a1_), .val .null, .val (.int (-1)), .unset] [(.ref a0_), (.ref a0_)])) rfl rfl (hb hby d9_97)
  refine GoW.st st80 ?_
  show GoW _ _ _ _ _ _ _ (T80.setTop (mkF m 100 _ [(.int pch), (.ref a0_)]))
  refine GoW.st (t' := T80.setTop (mkF m 102 #[.val (.ref a0_), .val (.ref a1_), .val .null, .val (.int (-1)), .unset] [(.int (pch + (1 : Int32))), (.ref a0_)])) (fun target kt => ?_) ?_
  · refine XS.iconst X80.here hx rfl (hb hby d9_100) ?_
    refine XS.iadd X80.here hx rfl (hb hby d9_101) rfl ?_
    exact kt
  have c81 := c74.wr W75
  obtain ⟨T82, h82, X82, e82, W82, st82⟩ := putF X80 hx hZ hown (host := "") (Or.inl (hw _ tw103)) Via.refl e80 c79 c81 (Or.inl (hw _ tw104)) (hw _ tw1) (ty := .int) (by decide) rfl rfl (g := (mkF m 102 #[.val (.ref a0_), .val (.ref a1_), .val .null, .val (.int (-1)), .unset] [(.int (pch + (1 : Int32))), (.ref a0_)])) rfl rfl (hb hby d9_102)
  have F83 : Fld Z h82 a0_ sq0 "changes" "I" (.int (pch + (1 : Int32))) := c79.same W82
  have K84 := K77.wr W82 (Or.inl (List.mem_of_getElem? (i := 0) rfl))
  have O85 := O78.wr W82 g0
  have N82 := Fr.snoc X82 N75 g0
  refine GoW.st st82 ?_
  show GoW _ _ _ _ _ _ _ (T82.setTop (mkF m 105 _ []))
  refine GoW.st (t' := T82.setTop (mkF m 106 #[.val (.ref a0_), .val (.ref a1_), .val .null, .val (.int (-1)), .unset] [(.ref a0_)])) (fun target kt => ?_) ?_
  · refine XS.aloadN X82.here hx rfl (hb hby d9_105) rfl rfl ?_
    exact kt
  have c86 := (((q46.other W57 (Or.inl ne63)).other W68 (Or.inl ne63)).other W75 (Or.inr (slot_ne (Or.inl (hw _ tw67)) (Or.inl (hw _ tw69)) (by decide) (t := (.array .int)) (t' := .int) (by decide) (by decide)))).other W82 (Or.inr (slot_ne (Or.inl (hw _ tw67)) (Or.inl (hw _ tw104)) (by decide) (t := (.array .int)) (t' := .int) (by decide) (by decide)))
  obtain ⟨T87, X87, e87, st87⟩ := getF X82 hx hZ hown (host := "") (Or.inl (hw _ tw66)) Via.refl e82 c86 (g := (mkF m 106 #[.val (.ref a0_), .val (.ref a1_), .val .null, .val (.int (-1)), .unset] [(.ref a0_)])) rfl rfl (hb hby d9_106)
  refine GoW.st st87 ?_
  show GoW _ _ _ _ _ _ _ (T87.setTop (mkF m 109 _ [.null]))
  refine GoW.st (t' := T87.setTop (mkF m 126 #[.val (.ref a0_), .val (.ref a1_), .val .null, .val (.int (-1)), .unset] [(.ref a0_)])) (fun target kt => ?_) ?_
  · refine XS.ifnullYes X87.here hx rfl (pc0 := 109) (pc' := 125) rfl (hb hby d9_109) rfl (by decide) (by decide) ?_
    refine XS.aloadN X87.here hx rfl (hb hby d9_125) rfl rfl ?_
    exact kt
  have c88 := F76.other W82 (Or.inr (slot_ne (Or.inl (hw _ tw69)) (Or.inl (hw _ tw104)) (by decide) (t := .int) (t' := .int) (by decide) (by decide)))
  obtain ⟨T89, X89, e89, st89⟩ := getF X87 hx hZ hown (host := "") (Or.inl (hw _ tw68)) Via.refl e87 c88 (g := (mkF m 126 #[.val (.ref a0_), .val (.ref a1_), .val .null, .val (.int (-1)), .unset] [(.ref a0_)])) rfl rfl (hb hby d9_126)
  refine GoW.st st89 ?_
  show GoW _ _ _ _ _ _ _ (T89.setTop (mkF m 129 _ [(.int 3)]))
  refine GoW.st (t' := T89.setTop (mkF m 139 #[.val (.ref a0_), .val (.ref a1_), .val .null, .val (.int (-1)), .unset] [.null])) (fun target kt => ?_) ?_
  · refine XS.bipush X89.here hx rfl (hb hby d9_129) ?_
    refine XS.icmpYes X89.here hx rfl (pc0 := 131) (pc' := 138) rfl (hb hby d9_131) rfl (flt (by decide : ¬ ((8 : Int32) < (3 : Int32)))).2.2.2 (by decide) (by decide) ?_
    refine XS.aconstNull X89.here hx rfl (hb hby d9_138) ?_
    exact kt
  have c90 := c81.wr W82
  have c91 := ((c64.other W68 (Or.inl ne63)).other W75 (Or.inr (slot_ne (Or.inl (hw _ tw17)) (Or.inl (hw _ tw69)) (by decide) (t := (.array (.object sq1))) (t' := .int) (by decide) (by decide)))).other W82 (Or.inr (slot_ne (Or.inl (hw _ tw17)) (Or.inl (hw _ tw104)) (by decide) (t := (.array (.object sq1))) (t' := .int) (by decide) (by decide)))
  have c92 := (((q49.wr W57).wr W68).wr W75).wr W82
  have c93 := (V69.other W75 (Ne.symm ne63)).other W82 (Ne.symm ne63)
  refine GoW.ret X89 hSi (by rw [e89]; exact (Nat.le_trans hk10 (Nat.le_trans (Nat.le_trans (Nat.le_trans (Nat.le_trans Kq39.1 (Keep.of_wr W57).1) (Keep.of_wr W68).1) (Keep.of_wr W75).1) (Keep.of_wr W82).1))) (v := some .null) (fun h => by rw [hret] at h; cases h) hlk (fun fs hr => retR X89 hx hret rfl rfl (hb hby d9_139) hr) ?_ (by decide) (by decide)
  show Q9_ne_ne_2_4_n Z a0_ a1_ pch wcs wm am km y0 u0 y1 u1 vn kx xn v0 k0 x0 v1 k1 x1 h0 n0 _ T89.heap _
  rw [e89]
  exact ⟨b40, k41, rfl, N82, K84, sz51, (by first | assumption | decide | omega), c90, c91, c86, c88, F83, c92, c93⟩
theorem ef9_none_0_4_R (m : MethodId) (x0 : Addr) (x1 : Addr) (x2 : Addr) : entryFrame m #[(.ref x0), (.ref x1), (.ref x2)] 5 = mkF m 0 #[.val (.ref x0), .val (.ref x1), .val (.ref x2), .unset, .unset] [] := by first | (simp [entryFrame, mkF, argsToLocals, Value.category]; done) | rfl
def Q9_none_0_4_R (Z : State) (a0_ : Addr) (a1_ : Addr) (a2_ : Addr) (pch : Int32) (wcs : Int32) (wm : Addr) (am : Addr) (km : ClassId) (h0 : Heap) (n0 : Nat) (v : Option Value) (h : Heap) (L : List Loc) : Prop := v = some .null ∧ Fr n0 L ∧ Keep h0 h [a0_, am] ∧ Exa Z h a0_ sq0 ∧ Fld Z h a0_ sq0 "members" sq3 (.ref am) ∧ Fld Z h a0_ sq0 "index" "[I" .null ∧ Fld Z h a0_ sq0 "size" "I" (.int 1) ∧ Fld Z h a0_ sq0 "changes" "I" (.int (pch + (1 : Int32))) ∧ Exa Z h am sq3 ∧ Arv Z h am km (.object sq1) (4 : Int32) [(.ref a1_), (.ref a2_), .null, .null] .null
theorem rm9_none_0_4_R (l : Launch) (Z : State) (a0 : Array Value) (hw : ∀ d ∈ tables_1, d.before a0 Z = true) (ws : List Jvm.Cond) (a0_ : Addr) (a1_ : Addr) (a2_ : Addr) (pch : Int32) (wcs : Int32) (wm : Addr) (am : Addr) (km : ClassId) (h0 : Heap) (n0 : Nat) (Z0 : n0 ≤ h0.size) (O0 : Old Z n0 h0) (S_CS : Sta Z Z.heap sq2 "COMPACT_STRINGS" "Z" (.int wcs)) (hcs : ¬ (wcs = (0 : Int32))) (M_AO : MirM Z sq3 wm) (E0 : Exa Z h0 a0_ sq0) (F_m : Fld Z h0 a0_ sq0 "members" sq3 (.ref am)) (F_i : Fld Z h0 a0_ sq0 "index" "[I" .null) (F_s : Fld Z h0 a0_ sq0 "size" "I" (.int 0)) (F_c : Fld Z h0 a0_ sq0 "changes" "I" (.int pch)) (E_m : Exa Z h0 am sq3) (V_m : Arv Z h0 am km (.object sq1) (4 : Int32) [.null, .null, .null, .null] .null) (E_a1 : Exa Z h0 a1_ sq2) (g0 : n0 ≤ a0_) (gm : n0 ≤ am) (ov : Ovr Z km sq1) (nem : a0_ ≠ am) (E_a2 : Exa Z h0 a2_ "java/lang/Integer") :
    MetW l Z ws (⟨sq0, "put", sq4⟩ : MethodName) prog_14_method_5_code 5 (some (.object sq1)) (Rm 1 2 20 16) #[(.ref a0_), (.ref a1_), (.ref a2_)] h0 (Q9_none_0_4_R Z a0_ a1_ a2_ pch wcs wm am km h0 n0) := by
  refine MetW.enter (L0 := #[.val (.ref a0_), .val (.ref a1_), .val (.ref a2_), .unset, .unset]) (plainFor_of_name pn10) (fun m => ef9_none_0_4_R m a0_ a1_ a2_) ?_
  intro p e s m below meth c s₁ hx hby hml hown hnm hret hlk hZ X0 e0
  have N0 := Fr.nil n0
  have K0 : Keep h0 h0 [a0_, am] := Keep.refl h0 _
  have hSi : s.Since s.vm 0 := (State.WarmedH.refl s).since 0
  have wS : ∀ a ∈ Bundle.stringAtoms, a.before a0 Z = true := own_wS hw
  refine GoW.st (t' := s₁.setTop (mkF m 2 #[.val (.ref a0_), .val (.ref a1_), .val (.ref a2_), .unset, .unset] [(.ref a1_), (.ref a0_)])) (fun target kt => ?_) ?_
  · refine XS.aloadN X0.here hx rfl (hb hby d9_0) rfl rfl ?_
    refine XS.aloadN X0.here hx rfl (hb hby d9_1) rfl rfl ?_
    exact kt
  obtain ⟨b10, T10, h10, k10, X10, e10, E10, hSi, hk10, hZ, hown, st10⟩ := ldcS X0 hx hZ hown (hw _ tw54) wS e0 hSi (Nat.zero_le _) (g := (mkF m 2 #[.val (.ref a0_), .val (.ref a1_), .val (.ref a2_), .unset, .unset] [(.ref a1_), (.ref a0_)])) rfl (hb hby d9_2) (n := 16) (by decide) (by decide) (by decide) (by decide)
  have K11 := K0.ext E10
  have O12 := O0.ext E10
  refine GoW.st st10 ?_
  show GoW _ _ _ _ _ _ _ (T10.setTop (mkF m 4 _ [(.ref b10), (.ref a1_), (.ref a0_)]))
  obtain ⟨_, _, ⟨T13, L13, k13, n13⟩, -, X13, ⟨Lc13, hQ13, l13, y13, z13⟩, st13⟩ := Jvm.LawKit.callS X10 hx (y := (⟨"java/util/Objects", "requireNonNull", "(Ljava/lang/Object;Ljava/lang/String;)Ljava/lang/Object;"⟩ : MethodName)) hown (mvT hZ (hw _ tw57)) (mvT hZ (hw _ tw58)) (mvT hZ (hw _ tw59)) (mvT hZ (hw _ tw60)) (by decide) (backOf (W := 1) (rm10 l Z a0 hw [] a1_ b10 h10 n0 (Nat.le_trans Z0 K11.1) O12  ) hZ (hw _ tw60) (hw _ tw59) (by decide) (by decide)) (g := (mkF m 4 #[.val (.ref a0_), .val (.ref a1_), .val (.ref a2_), .unset, .unset] [(.ref b10), (.ref a1_), (.ref a0_)])) rfl (by rw [hml]; rfl) (argsL := [(.ref a1_), (.ref b10)]) (rest := [(.ref a0_)]) (lenOf pd10 rfl) rfl (by show 2 * 0 + _ ≤ _; exact Nat.le_of_eq rfl) (hb hby d9_4) (fun _ _ => ⟨rfl, e10, (by decide : 2 + 0 ≤ _), (by decide : 20 + 0 ≤ _)⟩)
  dsimp only [Pt.U, Pt.locs, Pt.cells, Pt.slots] at X13 l13 y13 z13 st13 hQ13
  subst l13 y13 z13
  obtain ⟨rfl, Nq13, eq13⟩ := hQ13
  have N13 := Fr.app N0 Nq13
  refine GoW.st st13 ?_
  show GoW _ _ _ _ _ _ _ (T13.setTop (mkF m 7 _ [(.ref a1_), (.ref a0_)]))
  have c14 := E0.ext E10
  have c15 := F_m.ext E10
  have c16 := F_i.ext E10
  have c17 := F_s.ext E10
  have c18 := F_c.ext E10
  have c19 := E_m.ext E10
  have c20 := V_m.ext E10
  have c21 := E_a1.ext E10
  obtain ⟨cq22, q22, q22'⟩ := c14.cell
  obtain ⟨_, _, ⟨T22, L22, k22, n22⟩, -, X22, ⟨Lc22, hQ22, l22, y22, z22⟩, st22⟩ := X13.privateBack hx (y := (⟨sq0, "find", "(Ljava/lang/Object;)I"⟩ : MethodName)) hown (mvT hZ (hw _ tw61)) (mvT hZ (hw _ tw62)) (mvT hZ (own_selp (y := (⟨sq0, "find", "(Ljava/lang/Object;)I"⟩ : MethodName)) (hw _ tw1) (hw _ tw63) (hw _ tw62) (by decide))) (Cond.privateMethod_at (mvP hZ (hw _ tw63) (args := #[]))) (mvT hZ (hw _ tw64)) (by decide) (backOf (W := 0) (rm11_none_0_4 l Z a0 hw [] a0_ a1_ pch wcs am km h10 n0 (Nat.le_trans Z0 K11.1) O12 S_CS hcs c14 c15 c16 c17 c18 c19 c20 c21) hZ (hw _ tw64) (hw _ tw2) (by decide) (by decide)) (g := (mkF m 7 #[.val (.ref a0_), .val (.ref a1_), .val (.ref a2_), .unset, .unset] [(.ref a1_), (.ref a0_)])) rfl (by rw [hml]; rfl) (Steps.refl _) (a := a0_) (by rw [eq13]; exact q22) q22' (argsL := [(.ref a1_)]) (rest := []) (lenOf pd11 rfl) rfl (by show 2 * 0 + _ ≤ _; exact Nat.le_of_eq rfl) (hb hby d9_7) (fun _ _ => ⟨rfl, eq13, (by decide : 2 + 0 ≤ _), (by decide : 20 + 0 ≤ _)⟩)
  dsimp only [Pt.U, Pt.locs, Pt.cells, Pt.slots] at X22 l22 y22 z22 st22 hQ22
  subst l22 y22 z22
  obtain ⟨rfl, Nq22, eq22⟩ := hQ22
  have N22 := Fr.app N13 Nq22
  refine GoW.by st22 ?_
  show GoW _ _ _ _ _ _ _ (T22.setTop (mkF m 10 _ [(.int (-1))]))
  refine GoW.st (t' := T22.setTop (mkF m 43 #[.val (.ref a0_), .val (.ref a1_), .val (.ref a2_), .val (.int (-1)), .unset] [(.ref a0_), (.int 2)])) (fun target kt => ?_) ?_
  · refine XS.istoreN X22.here hx rfl (hb hby d9_10) rfl (l' := #[.val (.ref a0_), .val (.ref a1_), .val (.ref a2_), .val (.int (-1)), .unset]) rfl ?_
    refine XS.iloadN X22.here hx rfl (hb hby d9_11) rfl ?_
    refine XS.ifYes X22.here hx rfl (pc0 := 12) (pc' := 41) rfl (hb hby d9_12) rfl ((if0 _ _).trans (tlt (by decide : (-1 : Int32) < (0 : Int32))).1) (by decide) (by decide) ?_
    refine XS.iconst X22.here hx rfl (hb hby d9_41) ?_
    refine XS.aloadN X22.here hx rfl (hb hby d9_42) rfl rfl ?_
    exact kt
  obtain ⟨T23, X23, e23, st23⟩ := getF X22 hx hZ hown (host := "") (Or.inl (hw _ tw68)) Via.refl eq22 c17 (g := (mkF m 43 #[.val (.ref a0_), .val (.ref a1_), .val (.ref a2_), .val (.int (-1)), .unset] [(.ref a0_), (.int 2)])) rfl rfl (hb hby d9_43)
  refine GoW.st st23 ?_
  show GoW _ _ _ _ _ _ _ (T23.setTop (mkF m 46 _ [(.int 0), (.int 2)]))
  refine GoW.st (t' := T23.setTop (mkF m 48 #[.val (.ref a0_), .val (.ref a1_), .val (.ref a2_), .val (.int (-1)), .unset] [(.ref a0_), (.int 0)])) (fun target kt => ?_) ?_
  · refine XS.imul X23.here hx rfl (hb hby d9_46) rfl ?_
    refine XS.aloadN X23.here hx rfl (hb hby d9_47) rfl rfl ?_
    exact kt
  obtain ⟨T24, X24, e24, st24⟩ := getF X23 hx hZ hown (host := "") (Or.inl (hw _ tw16)) Via.refl e23 c15 (g := (mkF m 48 #[.val (.ref a0_), .val (.ref a1_), .val (.ref a2_), .val (.int (-1)), .unset] [(.ref a0_), (.int 0)])) rfl rfl (hb hby d9_48)
  refine GoW.st st24 ?_
  show GoW _ _ _ _ _ _ _ (T24.setTop (mkF m 51 _ [(.ref am), (.int 0)]))
  obtain ⟨cl25, Ar25, -, S25, M25, -, -⟩ := id c20
  refine GoW.st (t' := T24.setTop (mkF m 60 #[.val (.ref a0_), .val (.ref a1_), .val (.ref a2_), .val (.int (-1)), .unset] [(.ref a0_)])) (fun target kt => ?_) ?_
  · refine X24.arraylength hx (by rw [e24]; exact Ar25.1) (State.isArrayOf_alike hZ.alike Ar25.2.1) (g := (mkF m 51 #[.val (.ref a0_), .val (.ref a1_), .val (.ref a2_), .val (.int (-1)), .unset] [(.ref am), (.int 0)])) rfl rfl (hb hby d9_51) _ ?_
    rw [len_of S25 M25]
    refine XS.icmpYes X24.here hx rfl (pc0 := 52) (pc' := 59) rfl (hb hby d9_52) rfl (feq (by decide : ¬ ((0 : Int32) = (4 : Int32)))).2 (by decide) (by decide) ?_
    refine XS.aloadN X24.here hx rfl (hb hby d9_59) rfl rfl ?_
    exact kt
  obtain ⟨T26, X26, e26, st26⟩ := getF X24 hx hZ hown (host := "") (Or.inl (hw _ tw16)) Via.refl e24 c15 (g := (mkF m 60 #[.val (.ref a0_), .val (.ref a1_), .val (.ref a2_), .val (.int (-1)), .unset] [(.ref a0_)])) rfl rfl (hb hby d9_60)
  refine GoW.st st26 ?_
  show GoW _ _ _ _ _ _ _ (T26.setTop (mkF m 63 _ [(.ref am)]))
  refine GoW.st (t' := T26.setTop (mkF m 65 #[.val (.ref a0_), .val (.ref a1_), .val (.ref a2_), .val (.int (-1)), .unset] [(.ref a0_), (.int 2), (.ref am)])) (fun target kt => ?_) ?_
  · refine XS.iconst X26.here hx rfl (hb hby d9_63) ?_
    refine XS.aloadN X26.here hx rfl (hb hby d9_64) rfl rfl ?_
    exact kt
  obtain ⟨T27, X27, e27, st27⟩ := getF X26 hx hZ hown (host := "") (Or.inl (hw _ tw68)) Via.refl e26 c17 (g := (mkF m 65 #[.val (.ref a0_), .val (.ref a1_), .val (.ref a2_), .val (.int (-1)), .unset] [(.ref a0_), (.int 2), (.ref am)])) rfl rfl (hb hby d9_65)
  refine GoW.st st27 ?_
  show GoW _ _ _ _ _ _ _ (T27.setTop (mkF m 68 _ [(.int 0), (.int 2), (.ref am)]))
  refine GoW.st (t' := T27.setTop (mkF m 70 #[.val (.ref a0_), .val (.ref a1_), .val (.ref a2_), .val (.int (-1)), .unset] [(.ref a1_), (.int 0), (.ref am)])) (fun target kt => ?_) ?_
  · refine XS.imul X27.here hx rfl (hb hby d9_68) rfl ?_
    refine XS.aloadN X27.here hx rfl (hb hby d9_69) rfl rfl ?_
    exact kt
  obtain ⟨cl28, Ar28, q28, S28, M28, H28, G28⟩ := id c20
  have hin28 : ¬ ((0 : Int32) < 0 ∨ cl28.slots.size ≤ ((0 : Int32)).toNatClampNeg) := inb_of S28 ⟨by decide, by decide⟩
  obtain ⟨T28, h28, X28, e28, W28, st28⟩ := stR X27 hx hZ e27 Ar28 (j := (0 : Int32)) hin28 rfl (Sto.ofV Ar28 q28 ov (Ins.of_exa c21 (hw _ tw101))) (g := (mkF m 70 #[.val (.ref a0_), .val (.ref a1_), .val (.ref a2_), .val (.int (-1)), .unset] [(.ref a1_), (.int 0), (.ref am)])) rfl rfl (hb hby d9_70)
  have V29 : Arv Z h28 am km (.object sq1) (4 : Int32) [(.ref a1_), .null, .null, .null] .null := Arv.set Ar28 q28 S28 M28 H28 G28 rfl W28 0 rfl (Nat.le_of_ble_eq_true rfl)
  have K30 := K11.wr W28 (Or.inl (List.mem_of_getElem? (i := 1) rfl))
  have O31 := O12.wr W28 gm
  have N28 := Fr.snoc X28 N22 gm
  refine GoW.st st28 ?_
  show GoW _ _ _ _ _ _ _ (T28.setTop (mkF m 71 _ []))
  refine GoW.st (t' := T28.setTop (mkF m 72 #[.val (.ref a0_), .val (.ref a1_), .val (.ref a2_), .val (.int (-1)), .unset] [(.ref a0_)])) (fun target kt => ?_) ?_
  · refine XS.aloadN X28.here hx rfl (hb hby d9_71) rfl rfl ?_
    exact kt
  have c32 := c15.other W28 (Or.inl nem)
  obtain ⟨T33, X33, e33, st33⟩ := getF X28 hx hZ hown (host := "") (Or.inl (hw _ tw16)) Via.refl e28 c32 (g := (mkF m 72 #[.val (.ref a0_), .val (.ref a1_), .val (.ref a2_), .val (.int (-1)), .unset] [(.ref a0_)])) rfl rfl (hb hby d9_72)
  refine GoW.st st33 ?_
  show GoW _ _ _ _ _ _ _ (T33.setTop (mkF m 75 _ [(.ref am)]))
  refine GoW.st (t' := T33.setTop (mkF m 77 #[.val (.ref a0_), .val (.ref a1_), .val (.ref a2_), .val (.int (-1)), .unset] [(.ref a0_), (.int 2), (.ref am)])) (fun target kt => ?_) ?_
  · refine XS.iconst X33.here hx rfl (hb hby d9_75) ?_
    refine XS.aloadN X33.here hx rfl (hb hby d9_76) rfl rfl ?_
    exact kt
  have c34 := c17.other W28 (Or.inl nem)
  obtain ⟨T35, X35, e35, st35⟩ := getF X33 hx hZ hown (host := "") (Or.inl (hw _ tw68)) Via.refl e33 c34 (g := (mkF m 77 #[.val (.ref a0_), .val (.ref a1_), .val (.ref a2_), .val (.int (-1)), .unset] [(.ref a0_), (.int 2), (.ref am)])) rfl rfl (hb hby d9_77)
  refine GoW.st st35 ?_
  show GoW _ _ _ _ _ _ _ (T35.setTop (mkF m 80 _ [(.int 0), (.int 2), (.ref am)]))
  refine GoW.st (t' := T35.setTop (mkF m 84 #[.val (.ref a0_), .val (.ref a1_), .val (.ref a2_), .val (.int (-1)), .unset] [(.ref a2_), (.int 1), (.ref am)])) (fun target kt => ?_) ?_
  · refine XS.imul X35.here hx rfl (hb hby d9_80) rfl ?_
    refine XS.iconst X35.here hx rfl (hb hby d9_81) ?_
    refine XS.iadd X35.here hx rfl (hb hby d9_82) rfl ?_
    refine XS.aloadN X35.here hx rfl (hb hby d9_83) rfl rfl ?_
    exact kt
  obtain ⟨cl36, Ar36, q36, S36, M36, H36, G36⟩ := id V29
  have hin36 : ¬ ((1 : Int32) < 0 ∨ cl36.slots.size ≤ ((1 : Int32)).toNatClampNeg) := inb_of S36 ⟨by decide, by decide⟩
  have c37 := (E_a2.ext E10).wr W28
  obtain ⟨T36, h36, X36, e36, W36, st36⟩ := stR X35 hx hZ e35 Ar36 (j := (1 : Int32)) hin36 rfl (Sto.ofV Ar36 q36 ov (Ins.of_exa c37 (hw _ tw102))) (g := (mkF m 84 #[.val (.ref a0_), .val (.ref a1_), .val (.ref a2_), .val (.int (-1)), .unset] [(.ref a2_), (.int 1), (.ref am)])) rfl rfl (hb hby d9_84)
  have V38 : Arv Z h36 am km (.object sq1) (4 : Int32) [(.ref a1_), (.ref a2_), .null, .null] .null := Arv.set Ar36 q36 S36 M36 H36 G36 rfl W36 1 rfl (Nat.le_of_ble_eq_true rfl)
  have K39 := K30.wr W36 (Or.inl (List.mem_of_getElem? (i := 1) rfl))
  have O40 := O31.wr W36 gm
  have N36 := Fr.snoc X36 N28 gm
  refine GoW.st st36 ?_
  show GoW _ _ _ _ _ _ _ (T36.setTop (mkF m 85 _ []))
  refine GoW.st (t' := T36.setTop (mkF m 87 #[.val (.ref a0_), .val (.ref a1_), .val (.ref a2_), .val (.int (-1)), .unset] [(.ref a0_), (.ref a0_)])) (fun target kt => ?_) ?_
  · refine XS.aloadN X36.here hx rfl (hb hby d9_85) rfl rfl ?_
    refine XS.dup X36.here hx rfl (hb hby d9_86) rfl rfl ?_
    exact kt
  have c41 := c34.other W36 (Or.inl nem)
  obtain ⟨T42, X42, e42, st42⟩ := getF X36 hx hZ hown (host := "") (Or.inl (hw _ tw68)) Via.refl e36 c41 (g := (mkF m 87 #[.val (.ref a0_), .val (.ref a1_), .val (.ref a2_), .val (.int (-1)), .unset] [(.ref a0_), (.ref a0_)])) rfl rfl (hb hby d9_87)
  refine GoW.st st42 ?_
  show GoW _ _ _ _ _ _ _ (T42.setTop (mkF m 90 _ [(.int 0), (.ref a0_)]))
  refine GoW.st (t' := T42.setTop (mkF m 92 #[.val (.ref a0_), .val (.ref a1_), .val (.ref a2_), .val (.int (-1)), .unset] [(.int 1), (.ref a0_)])) (fun target kt => ?_) ?_
  · refine XS.iconst X42.here hx rfl (hb hby d9_90) ?_
    refine XS.iadd X42.here hx rfl (hb hby d9_91) rfl ?_
    exact kt
  have c43 := (c14.wr W28).wr W36
  obtain ⟨T44, h44, X44, e44, W44, st44⟩ := putF X42 hx hZ hown (host := "") (Or.inl (hw _ tw68)) Via.refl e42 c41 c43 (Or.inl (hw _ tw69)) (hw _ tw1) (ty := .int) (by decide) rfl rfl (g := (mkF m 92 #[.val (.ref a0_), .val (.ref a1_), .val (.ref a2_), .val (.int (-1)), .unset] [(.int 1), (.ref a0_)])) rfl rfl (hb hby d9_92)
  have F45 : Fld Z h44 a0_ sq0 "size" "I" (.int 1) := c41.same W44
  have K46 := K39.wr W44 (Or.inl (List.mem_of_getElem? (i := 0) rfl))
  have O47 := O40.wr W44 g0
  have N44 := Fr.snoc X44 N36 g0
  refine GoW.st st44 ?_
  show GoW _ _ _ _ _ _ _ (T44.setTop (mkF m 95 _ []))
  refine GoW.st (t' := T44.setTop (mkF m 97 #[.val (.ref a0_), .val (.ref a1_), .val (.ref a2_), .val (.int (-1)), .unset] [(.ref a0_), (.ref a0_)])) (fun target kt => ?_) ?_
  · refine XS.aloadN X44.here hx rfl (hb hby d9_95) rfl rfl ?_
    refine XS.dup X44.here hx rfl (hb hby d9_96) rfl rfl ?_
    exact kt
  have c48 := ((c18.other W28 (Or.inl nem)).other W36 (Or.inl nem)).other W44 (Or.inr (slot_ne (Or.inl (hw _ tw104)) (Or.inl (hw _ tw69)) (by decide) (t := .int) (t' := .int) (by decide) (by decide)))
  obtain ⟨T49, X49, e49, st49⟩ := getF X44 hx hZ hown (host := "") (Or.inl (hw _ tw103)) Via.refl e44 c48 (g := (mkF m 97 #[.val (.ref a0_), .val (.ref a1_), .val (.ref a2_), .val (.int (-1)), .unset] [(.ref a0_), (.ref a0_)])) rfl rfl (hb hby d9_97)
  refine GoW.st st49 ?_
  show GoW _ _ _ _ _ _ _ (T49.setTop (mkF m 100 _ [(.int pch), (.ref a0_)]))
  refine GoW.st (t' := T49.setTop (mkF m 102 #[.val (.ref a0_), .val (.ref a1_), .val (.ref a2_), .val (.int (-1)), .unset] [(.int (pch + (1 : Int32))), (.ref a0_)])) (fun target kt => ?_) ?_
  · refine XS.iconst X49.here hx rfl (hb hby d9_100) ?_
    refine XS.iadd X49.here hx rfl (hb hby d9_101) rfl ?_
    exact kt
  have c50 := c43.wr W44
  obtain ⟨T51, h51, X51, e51, W51, st51⟩ := putF X49 hx hZ hown (host := "") (Or.inl (hw _ tw103)) Via.refl e49 c48 c50 (Or.inl (hw _ tw104)) (hw _ tw1) (ty := .int) (by decide) rfl rfl (g := (mkF m 102 #[.val (.ref a0_), .val (.ref a1_), .val (.ref a2_), .val (.int (-1)), .unset] [(.int (pch + (1 : Int32))), (.ref a0_)])) rfl rfl (hb hby d9_102)
  have F52 : Fld Z h51 a0_ sq0 "changes" "I" (.int (pch + (1 : Int32))) := c48.same W51
  have K53 := K46.wr W51 (Or.inl (List.mem_of_getElem? (i := 0) rfl))
  have O54 := O47.wr W51 g0
  have N51 := Fr.snoc X51 N44 g0
  refine GoW.st st51 ?_
  show GoW _ _ _ _ _ _ _ (T51.setTop (mkF m 105 _ []))
  refine GoW.st (t' := T51.setTop (mkF m 106 #[.val (.ref a0_), .val (.ref a1_), .val (.ref a2_), .val (.int (-1)), .unset] [(.ref a0_)])) (fun target kt => ?_) ?_
  · refine XS.aloadN X51.here hx rfl (hb hby d9_105) rfl rfl ?_
    exact kt
  have c55 := (((c16.other W28 (Or.inl nem)).other W36 (Or.inl nem)).other W44 (Or.inr (slot_ne (Or.inl (hw _ tw67)) (Or.inl (hw _ tw69)) (by decide) (t := (.array .int)) (t' := .int) (by decide) (by decide)))).other W51 (Or.inr (slot_ne (Or.inl (hw _ tw67)) (Or.inl (hw _ tw104)) (by decide) (t := (.array .int)) (t' := .int) (by decide) (by decide)))
  obtain ⟨T56, X56, e56, st56⟩ := getF X51 hx hZ hown (host := "") (Or.inl (hw _ tw66)) Via.refl e51 c55 (g := (mkF m 106 #[.val (.ref a0_), .val (.ref a1_), .val (.ref a2_), .val (.int (-1)), .unset] [(.ref a0_)])) rfl rfl (hb hby d9_106)
  refine GoW.st st56 ?_
  show GoW _ _ _ _ _ _ _ (T56.setTop (mkF m 109 _ [.null]))
  refine GoW.st (t' := T56.setTop (mkF m 126 #[.val (.ref a0_), .val (.ref a1_), .val (.ref a2_), .val (.int (-1)), .unset] [(.ref a0_)])) (fun target kt => ?_) ?_
  · refine XS.ifnullYes X56.here hx rfl (pc0 := 109) (pc' := 125) rfl (hb hby d9_109) rfl (by decide) (by decide) ?_
    refine XS.aloadN X56.here hx rfl (hb hby d9_125) rfl rfl ?_
    exact kt
  have c57 := F45.other W51 (Or.inr (slot_ne (Or.inl (hw _ tw69)) (Or.inl (hw _ tw104)) (by decide) (t := .int) (t' := .int) (by decide) (by decide)))
  obtain ⟨T58, X58, e58, st58⟩ := getF X56 hx hZ hown (host := "") (Or.inl (hw _ tw68)) Via.refl e56 c57 (g := (mkF m 126 #[.val (.ref a0_), .val (.ref a1_), .val (.ref a2_), .val (.int (-1)), .unset] [(.ref a0_)])) rfl rfl (hb hby d9_126)
  refine GoW.st st58 ?_
  show GoW _ _ _ _ _ _ _ (T58.setTop (mkF m 129 _ [(.int 1)]))
  refine GoW.st (t' := T58.setTop (mkF m 139 #[.val (.ref a0_), .val (.ref a1_), .val (.ref a2_), .val (.int (-1)), .unset] [.null])) (fun target kt => ?_) ?_
  · refine XS.bipush X58.here hx rfl (hb hby d9_129) ?_
    refine XS.icmpYes X58.here hx rfl (pc0 := 131) (pc' := 138) rfl (hb hby d9_131) rfl (flt (by decide : ¬ ((8 : Int32) < (1 : Int32)))).2.2.2 (by decide) (by decide) ?_
    refine XS.aconstNull X58.here hx rfl (hb hby d9_138) ?_
    exact kt
  have c59 := c50.wr W51
  have c60 := ((c32.other W36 (Or.inl nem)).other W44 (Or.inr (slot_ne (Or.inl (hw _ tw17)) (Or.inl (hw _ tw69)) (by decide) (t := (.array (.object sq1))) (t' := .int) (by decide) (by decide)))).other W51 (Or.inr (slot_ne (Or.inl (hw _ tw17)) (Or.inl (hw _ tw104)) (by decide) (t := (.array (.object sq1))) (t' := .int) (by decide) (by decide)))
  have c61 := (((c19.wr W28).wr W36).wr W44).wr W51
  have c62 := (V38.other W44 (Ne.symm nem)).other W51 (Ne.symm nem)
  refine GoW.ret X58 hSi (by rw [e58]; exact (Nat.le_trans hk10 (Nat.le_trans (Nat.le_trans (Nat.le_trans (Keep.of_wr W28).1 (Keep.of_wr W36).1) (Keep.of_wr W44).1) (Keep.of_wr W51).1))) (v := some .null) (fun h => by rw [hret] at h; cases h) hlk (fun fs hr => retR X58 hx hret rfl rfl (hb hby d9_139) hr) ?_ (by decide) (by decide)
  show Q9_none_0_4_R Z a0_ a1_ a2_ pch wcs wm am km h0 n0 _ T58.heap _
  rw [e58]
  exact ⟨rfl, N51, K53, c59, c60, c55, c57, F52, c61, c62⟩
theorem ef9_none_0_6_R (m : MethodId) (x0 : Addr) (x1 : Addr) (x2 : Addr) : entryFrame m #[(.ref x0), (.ref x1), (.ref x2)] 5 = mkF m 0 #[.val (.ref x0), .val (.ref x1), .val (.ref x2), .unset, .unset] [] := by first | (simp [entryFrame, mkF, argsToLocals, Value.category]; done) | rfl
def Q9_none_0_6_R (Z : State) (a0_ : Addr) (a1_ : Addr) (a2_ : Addr) (pch : Int32) (wcs : Int32) (wm : Addr) (am : Addr) (km : ClassId) (h0 : Heap) (n0 : Nat) (v : Option Value) (h : Heap) (L : List Loc) : Prop := v = some .null ∧ Fr n0 L ∧ Keep h0 h [a0_, am] ∧ Exa Z h a0_ sq0 ∧ Fld Z h a0_ sq0 "members" sq3 (.ref am) ∧ Fld Z h a0_ sq0 "index" "[I" .null ∧ Fld Z h a0_ sq0 "size" "I" (.int 1) ∧ Fld Z h a0_ sq0 "changes" "I" (.int (pch + (1 : Int32))) ∧ Exa Z h am sq3 ∧ Arv Z h am km (.object sq1) (6 : Int32) [(.ref a1_), (.ref a2_), .null, .null, .null, .null] .null
theorem rm9_none_0_6_R (l : Launch) (Z : State) (a0 : Array Value) (hw : ∀ d ∈ tables_1, d.before a0 Z = true) (ws : List Jvm.Cond) (a0_ : Addr) (a1_ : Addr) (a2_ : Addr) (pch : Int32) (wcs : Int32) (wm : Addr) (am : Addr) (km : ClassId) (h0 : Heap) (n0 : Nat) (Z0 : n0 ≤ h0.size) (O0 : Old Z n0 h0) (S_CS : Sta Z Z.heap sq2 "COMPACT_STRINGS" "Z" (.int wcs)) (hcs : ¬ (wcs = (0 : Int32))) (M_AO : MirM Z sq3 wm) (E0 : Exa Z h0 a0_ sq0) (F_m : Fld Z h0 a0_ sq0 "members" sq3 (.ref am)) (F_i : Fld Z h0 a0_ sq0 "index" "[I" .null) (F_s : Fld Z h0 a0_ sq0 "size" "I" (.int 0)) (F_c : Fld Z h0 a0_ sq0 "changes" "I" (.int pch)) (E_m : Exa Z h0 am sq3) (V_m : Arv Z h0 am km (.object sq1) (6 : Int32) [.null, .null, .null, .null, .null, .null] .null) (E_a1 : Exa Z h0 a1_ sq2) (g0 : n0 ≤ a0_) (gm : n0 ≤ am) (ov : Ovr Z km sq1) (nem : a0_ ≠ am) (E_a2 : Exa Z h0 a2_ "java/lang/Integer") :
    MetW l Z ws (⟨sq0, "put", sq4⟩ : MethodName) prog_14_method_5_code 5 (some (.object sq1)) (Rm 1 2 20 16) #[(.ref a0_), (.ref a1_), (.ref a2_)] h0 (Q9_none_0_6_R Z a0_ a1_ a2_ pch wcs wm am km h0 n0) := by
  refine MetW.enter (L0 := #[.val (.ref a0_), .val (.ref a1_), .val (.ref a2_), .unset, .unset]) (plainFor_of_name pn10) (fun m => ef9_none_0_6_R m a0_ a1_ a2_) ?_
  intro p e s m below meth c s₁ hx hby hml hown hnm hret hlk hZ X0 e0
  have N0 := Fr.nil n0
  have K0 : Keep h0 h0 [a0_, am] := Keep.refl h0 _
  have hSi : s.Since s.vm 0 := (State.WarmedH.refl s).since 0
  have wS : ∀ a ∈ Bundle.stringAtoms, a.before a0 Z = true := own_wS hw
  refine GoW.st (t' := s₁.setTop (mkF m 2 #[.val (.ref a0_), .val (.ref a1_), .val (.ref a2_), .unset, .unset] [(.ref a1_), (.ref a0_)])) (fun target kt => ?_) ?_
  · refine XS.aloadN X0.here hx rfl (hb hby d9_0) rfl rfl ?_
    refine XS.aloadN X0.here hx rfl (hb hby d9_1) rfl rfl ?_
    exact kt
  obtain ⟨b10, T10, h10, k10, X10, e10, E10, hSi, hk10, hZ, hown, st10⟩ := ldcS X0 hx hZ hown (hw _ tw54) wS e0 hSi (Nat.zero_le _) (g := (mkF m 2 #[.val (.ref a0_), .val (.ref a1_), .val (.ref a2_), .unset, .unset] [(.ref a1_), (.ref a0_)])) rfl (hb hby d9_2) (n := 16) (by decide) (by decide) (by decide) (by decide)
  have K11 := K0.ext E10
  have O12 := O0.ext E10
  refine GoW.st st10 ?_
  show GoW _ _ _ _ _ _ _ (T10.setTop (mkF m 4 _ [(.ref b10), (.ref a1_), (.ref a0_)]))
  obtain ⟨_, _, ⟨T13, L13, k13, n13⟩, -, X13, ⟨Lc13, hQ13, l13, y13, z13⟩, st13⟩ := Jvm.LawKit.callS X10 hx (y := (⟨"java/util/Objects", "requireNonNull", "(Ljava/lang/Object;Ljava/lang/String;)Ljava/lang/Object;"⟩ : MethodName)) hown (mvT hZ (hw _ tw57)) (mvT hZ (hw _ tw58)) (mvT hZ (hw _ tw59)) (mvT hZ (hw _ tw60)) (by decide) (backOf (W := 1) (rm10 l Z a0 hw [] a1_ b10 h10 n0 (Nat.le_trans Z0 K11.1) O12  ) hZ (hw _ tw60) (hw _ tw59) (by decide) (by decide)) (g := (mkF m 4 #[.val (.ref a0_), .val (.ref a1_), .val (.ref a2_), .unset, .unset] [(.ref b10), (.ref a1_), (.ref a0_)])) rfl (by rw [hml]; rfl) (argsL := [(.ref a1_), (.ref b10)]) (rest := [(.ref a0_)]) (lenOf pd10 rfl) rfl (by show 2 * 0 + _ ≤ _; exact Nat.le_of_eq rfl) (hb hby d9_4) (fun _ _ => ⟨rfl, e10, (by decide : 2 + 0 ≤ _), (by decide : 20 + 0 ≤ _)⟩)
  dsimp only [Pt.U, Pt.locs, Pt.cells, Pt.slots] at X13 l13 y13 z13 st13 hQ13
  subst l13 y13 z13
  obtain ⟨rfl, Nq13, eq13⟩ := hQ13
  have N13 := Fr.app N0 Nq13
  refine GoW.st st13 ?_
  show GoW _ _ _ _ _ _ _ (T13.setTop (mkF m 7 _ [(.ref a1_), (.ref a0_)]))
  have c14 := E0.ext E10
  have c15 := F_m.ext E10
  have c16 := F_i.ext E10
  have c17 := F_s.ext E10
  have c18 := F_c.ext E10
  have c19 := E_m.ext E10
  have c20 := V_m.ext E10
  have c21 := E_a1.ext E10
  obtain ⟨cq22, q22, q22'⟩ := c14.cell
  obtain ⟨_, _, ⟨T22, L22, k22, n22⟩, -, X22, ⟨Lc22, hQ22, l22, y22, z22⟩, st22⟩ := X13.privateBack hx (y := (⟨sq0, "find", "(Ljava/lang/Object;)I"⟩ : MethodName)) hown (mvT hZ (hw _ tw61)) (mvT hZ (hw _ tw62)) (mvT hZ (own_selp (y := (⟨sq0, "find", "(Ljava/lang/Object;)I"⟩ : MethodName)) (hw _ tw1) (hw _ tw63) (hw _ tw62) (by decide))) (Cond.privateMethod_at (mvP hZ (hw _ tw63) (args := #[]))) (mvT hZ (hw _ tw64)) (by decide) (backOf (W := 0) (rm11_none_0_6 l Z a0 hw [] a0_ a1_ pch wcs am km h10 n0 (Nat.le_trans Z0 K11.1) O12 S_CS hcs c14 c15 c16 c17 c18 c19 c20 c21) hZ (hw _ tw64) (hw _ tw2) (by decide) (by decide)) (g := (mkF m 7 #[.val (.ref a0_), .val (.ref a1_), .val (.ref a2_), .unset, .unset] [(.ref a1_), (.ref a0_)])) rfl (by rw [hml]; rfl) (Steps.refl _) (a := a0_) (by rw [eq13]; exact q22) q22' (argsL := [(.ref a1_)]) (rest := []) (lenOf pd11 rfl) rfl (by show 2 * 0 + _ ≤ _; exact Nat.le_of_eq rfl) (hb hby d9_7) (fun _ _ => ⟨rfl, eq13, (by decide : 2 + 0 ≤ _), (by decide : 20 + 0 ≤ _)⟩)
  dsimp only [Pt.U, Pt.locs, Pt.cells, Pt.slots] at X22 l22 y22 z22 st22 hQ22
  subst l22 y22 z22
  obtain ⟨rfl, Nq22, eq22⟩ := hQ22
  have N22 := Fr.app N13 Nq22
  refine GoW.by st22 ?_
  show GoW _ _ _ _ _ _ _ (T22.setTop (mkF m 10 _ [(.int (-1))]))
  refine GoW.st (t' := T22.setTop (mkF m 43 #[.val (.ref a0_), .val (.ref a1_), .val (.ref a2_), .val (.int (-1)), .unset] [(.ref a0_), (.int 2)])) (fun target kt => ?_) ?_
  · refine XS.istoreN X22.here hx rfl (hb hby d9_10) rfl (l' := #[.val (.ref a0_), .val (.ref a1_), .val (.ref a2_), .val (.int (-1)), .unset]) rfl ?_
    refine XS.iloadN X22.here hx rfl (hb hby d9_11) rfl ?_
    refine XS.ifYes X22.here hx rfl (pc0 := 12) (pc' := 41) rfl (hb hby d9_12) rfl ((if0 _ _).trans (tlt (by decide : (-1 : Int32) < (0 : Int32))).1) (by decide) (by decide) ?_
    refine XS.iconst X22.here hx rfl (hb hby d9_41) ?_
    refine XS.aloadN X22.here hx rfl (hb hby d9_42) rfl rfl ?_
    exact kt
  obtain ⟨T23, X23, e23, st23⟩ := getF X22 hx hZ hown (host := "") (Or.inl (hw _ tw68)) Via.refl eq22 c17 (g := (mkF m 43 #[.val (.ref a0_), .val (.ref a1_), .val (.ref a2_), .val (.int (-1)), .unset] [(.ref a0_), (.int 2)])) rfl rfl (hb hby d9_43)
  refine GoW.st st23 ?_
  show GoW _ _ _ _ _ _ _ (T23.setTop (mkF m 46 _ [(.int 0), (.int 2)]))
  refine GoW.st (t' := T23.setTop (mkF m 48 #[.val (.ref a0_), .val (.ref a1_), .val (.ref a2_), .val (.int (-1)), .unset] [(.ref a0_), (.int 0)])) (fun target kt => ?_) ?_
  · refine XS.imul X23.here hx rfl (hb hby d9_46) rfl ?_
    refine XS.aloadN X23.here hx rfl (hb hby d9_47) rfl rfl ?_
    exact kt
  obtain ⟨T24, X24, e24, st24⟩ := getF X23 hx hZ hown (host := "") (Or.inl (hw _ tw16)) Via.refl e23 c15 (g := (mkF m 48 #[.val (.ref a0_), .val (.ref a1_), .val (.ref a2_), .val (.int (-1)), .unset] [(.ref a0_), (.int 0)])) rfl rfl (hb hby d9_48)
  refine GoW.st st24 ?_
  show GoW _ _ _ _ _ _ _ (T24.setTop (mkF m 51 _ [(.ref am), (.int 0)]))
  obtain ⟨cl25, Ar25, -, S25, M25, -, -⟩ := id c20
  refine GoW.st (t' := T24.setTop (mkF m 60 #[.val (.ref a0_), .val (.ref a1_), .val (.ref a2_), .val (.int (-1)), .unset] [(.ref a0_)])) (fun target kt => ?_) ?_
  · refine X24.arraylength hx (by rw [e24]; exact Ar25.1) (State.isArrayOf_alike hZ.alike Ar25.2.1) (g := (mkF m 51 #[.val (.ref a0_), .val (.ref a1_), .val (.ref a2_), .val (.int (-1)), .unset] [(.ref am), (.int 0)])) rfl rfl (hb hby d9_51) _ ?_
    rw [len_of S25 M25]
    refine XS.icmpYes X24.here hx rfl (pc0 := 52) (pc' := 59) rfl (hb hby d9_52) rfl (feq (by decide : ¬ ((0 : Int32) = (6 : Int32)))).2 (by decide) (by decide) ?_
    refine XS.aloadN X24.here hx rfl (hb hby d9_59) rfl rfl ?_
    exact kt
  obtain ⟨T26, X26, e26, st26⟩ := getF X24 hx hZ hown (host := "") (Or.inl (hw _ tw16)) Via.refl e24 c15 (g := (mkF m 60 #[.val (.ref a0_), .val (.ref a1_), .val (.ref a2_), .val (.int (-1)), .unset] [(.ref a0_)])) rfl rfl (hb hby d9_60)
  refine GoW.st st26 ?_
  show GoW _ _ _ _ _ _ _ (T26.setTop (mkF m 63 _ [(.ref am)]))
  refine GoW.st (t' := T26.setTop (mkF m 65 #[.val (.ref a0_), .val (.ref a1_), .val (.ref a2_), .val (.int (-1)), .unset] [(.ref a0_), (.int 2), (.ref am)])) (fun target kt => ?_) ?_
  · refine XS.iconst X26.here hx rfl (hb hby d9_63) ?_
    refine XS.aloadN X26.here hx rfl (hb hby d9_64) rfl rfl ?_
    exact kt
  obtain ⟨T27, X27, e27, st27⟩ := getF X26 hx hZ hown (host := "") (Or.inl (hw _ tw68)) Via.refl e26 c17 (g := (mkF m 65 #[.val (.ref a0_), .val (.ref a1_), .val (.ref a2_), .val (.int (-1)), .unset] [(.ref a0_), (.int 2), (.ref am)])) rfl rfl (hb hby d9_65)
  refine GoW.st st27 ?_
  show GoW _ _ _ _ _ _ _ (T27.setTop (mkF m 68 _ [(.int 0), (.int 2), (.ref am)]))
  refine GoW.st (t' := T27.setTop (mkF m 70 #[.val (.ref a0_), .val (.ref a1_), .val (.ref a2_), .val (.int (-1)), .unset] [(.ref a1_), (.int 0), (.ref am)])) (fun target kt => ?_) ?_
  · refine XS.imul X27.here hx rfl (hb hby d9_68) rfl ?_
    refine XS.aloadN X27.here hx rfl (hb hby d9_69) rfl rfl ?_
    exact kt
  obtain ⟨cl28, Ar28, q28, S28, M28, H28, G28⟩ := id c20
  have hin28 : ¬ ((0 : Int32) < 0 ∨ cl28.slots.size ≤ ((0 : Int32)).toNatClampNeg) := inb_of S28 ⟨by decide, by decide⟩
  obtain ⟨T28, h28, X28, e28, W28, st28⟩ := stR X27 hx hZ e27 Ar28 (j := (0 : Int32)) hin28 rfl (Sto.ofV Ar28 q28 ov (Ins.of_exa c21 (hw _ tw101))) (g := (mkF m 70 #[.val (.ref a0_), .val (.ref a1_), .val (.ref a2_), .val (.int (-1)), .unset] [(.ref a1_), (.int 0), (.ref am)])) rfl rfl (hb hby d9_70)
  have V29 : Arv Z h28 am km (.object sq1) (6 : Int32) [(.ref a1_), .null, .null, .null, .null, .null] .null := Arv.set Ar28 q28 S28 M28 H28 G28 rfl W28 0 rfl (Nat.le_of_ble_eq_true rfl)
  have K30 := K11.wr W28 (Or.inl (List.mem_of_getElem? (i := 1) rfl))
  have O31 := O12.wr W28 gm
  have N28 := Fr.snoc X28 N22 gm
  refine GoW.st st28 ?_
  show GoW _ _ _ _ _ _ _ (T28.setTop (mkF m 71 _ []))
  refine GoW.st (t' := T28.setTop (mkF m 72 #[.val (.ref a0_), .val (.ref a1_), .val (.ref a2_), .val (.int (-1)), .unset] [(.ref a0_)])) (fun target kt => ?_) ?_
  · refine XS.aloadN X28.here hx rfl (hb hby d9_71) rfl rfl ?_
    exact kt
  have c32 := c15.other W28 (Or.inl nem)
  obtain ⟨T33, X33, e33, st33⟩ := getF X28 hx hZ hown (host := "") (Or.inl (hw _ tw16)) Via.refl e28 c32 (g := (mkF m 72 #[.val (.ref a0_), .val (.ref a1_), .val (.ref a2_), .val (.int (-1)), .unset] [(.ref a0_)])) rfl rfl (hb hby d9_72)
  refine GoW.st st33 ?_
  show GoW _ _ _ _ _ _ _ (T33.setTop (mkF m 75 _ [(.ref am)]))
  refine GoW.st (t' := T33.setTop (mkF m 77 #[.val (.ref a0_), .val (.ref a1_), .val (.ref a2_), .val (.int (-1)), .unset] [(.ref a0_), (.int 2), (.ref am)])) (fun target kt => ?_) ?_
  · refine XS.iconst X33.here hx rfl (hb hby d9_75) ?_
    refine XS.aloadN X33.here hx rfl (hb hby d9_76) rfl rfl ?_
    exact kt
  have c34 := c17.other W28 (Or.inl nem)
  obtain ⟨T35, X35, e35, st35⟩ := getF X33 hx hZ hown (host := "") (Or.inl (hw _ tw68)) Via.refl e33 c34 (g := (mkF m 77 #[.val (.ref a0_), .val (.ref a1_), .val (.ref a2_), .val (.int (-1)), .unset] [(.ref a0_), (.int 2), (.ref am)])) rfl rfl (hb hby d9_77)
  refine GoW.st st35 ?_
  show GoW _ _ _ _ _ _ _ (T35.setTop (mkF m 80 _ [(.int 0), (.int 2), (.ref am)]))
  refine GoW.st (t' := T35.setTop (mkF m 84 #[.val (.ref a0_), .val (.ref a1_), .val (.ref a2_), .val (.int (-1)), .unset] [(.ref a2_), (.int 1), (.ref am)])) (fun target kt => ?_) ?_
  · refine XS.imul X35.here hx rfl (hb hby d9_80) rfl ?_
    refine XS.iconst X35.here hx rfl (hb hby d9_81) ?_
    refine XS.iadd X35.here hx rfl (hb hby d9_82) rfl ?_
    refine XS.aloadN X35.here hx rfl (hb hby d9_83) rfl rfl ?_
    exact kt
  obtain ⟨cl36, Ar36, q36, S36, M36, H36, G36⟩ := id V29
  have hin36 : ¬ ((1 : Int32) < 0 ∨ cl36.slots.size ≤ ((1 : Int32)).toNatClampNeg) := inb_of S36 ⟨by decide, by decide⟩
  have c37 := (E_a2.ext E10).wr W28
  obtain ⟨T36, h36, X36, e36, W36, st36⟩ := stR X35 hx hZ e35 Ar36 (j := (1 : Int32)) hin36 rfl (Sto.ofV Ar36 q36 ov (Ins.of_exa c37 (hw _ tw102))) (g := (mkF m 84 #[.val (.ref a0_), .val (.ref a1_), .val (.ref a2_), .val (.int (-1)), .unset] [(.ref a2_), (.int 1), (.ref am)])) rfl rfl (hb hby d9_84)
  have V38 : Arv Z h36 am km (.object sq1) (6 : Int32) [(.ref a1_), (.ref a2_), .null, .null, .null, .null] .null := Arv.set Ar36 q36 S36 M36 H36 G36 rfl W36 1 rfl (Nat.le_of_ble_eq_true rfl)
  have K39 := K30.wr W36 (Or.inl (List.mem_of_getElem? (i := 1) rfl))
  have O40 := O31.wr W36 gm
  have N36 := Fr.snoc X36 N28 gm
  refine GoW.st st36 ?_
  show GoW _ _ _ _ _ _ _ (T36.setTop (mkF m 85 _ []))
  refine GoW.st (t' := T36.setTop (mkF m 87 #[.val (.ref a0_), .val (.ref a1_), .val (.ref a2_), .val (.int (-1)), .unset] [(.ref a0_), (.ref a0_)])) (fun target kt => ?_) ?_
  · refine XS.aloadN X36.here hx rfl (hb hby d9_85) rfl rfl ?_
    refine XS.dup X36.here hx rfl (hb hby d9_86) rfl rfl ?_
    exact kt
  have c41 := c34.other W36 (Or.inl nem)
  obtain ⟨T42, X42, e42, st42⟩ := getF X36 hx hZ hown (host := "") (Or.inl (hw _ tw68)) Via.refl e36 c41 (g := (mkF m 87 #[.val (.ref a0_), .val (.ref a1_), .val (.ref a2_), .val (.int (-1)), .unset] [(.ref a0_), (.ref a0_)])) rfl rfl (hb hby d9_87)
  refine GoW.st st42 ?_
  show GoW _ _ _ _ _ _ _ (T42.setTop (mkF m 90 _ [(.int 0), (.ref a0_)]))
  refine GoW.st (t' := T42.setTop (mkF m 92 #[.val (.ref a0_), .val (.ref a1_), .val (.ref a2_), .val (.int (-1)), .unset] [(.int 1), (.ref a0_)])) (fun target kt => ?_) ?_
  · refine XS.iconst X42.here hx rfl (hb hby d9_90) ?_
    refine XS.iadd X42.here hx rfl (hb hby d9_91) rfl ?_
    exact kt
  have c43 := (c14.wr W28).wr W36
  obtain ⟨T44, h44, X44, e44, W44, st44⟩ := putF X42 hx hZ hown (host := "") (Or.inl (hw _ tw68)) Via.refl e42 c41 c43 (Or.inl (hw _ tw69)) (hw _ tw1) (ty := .int) (by decide) rfl rfl (g := (mkF m 92 #[.val (.ref a0_), .val (.ref a1_), .val (.ref a2_), .val (.int (-1)), .unset] [(.int 1), (.ref a0_)])) rfl rfl (hb hby d9_92)
  have F45 : Fld Z h44 a0_ sq0 "size" "I" (.int 1) := c41.same W44
  have K46 := K39.wr W44 (Or.inl (List.mem_of_getElem? (i := 0) rfl))
  have O47 := O40.wr W44 g0
  have N44 := Fr.snoc X44 N36 g0
  refine GoW.st st44 ?_
  show GoW _ _ _ _ _ _ _ (T44.setTop (mkF m 95 _ []))
  refine GoW.st (t' := T44.setTop (mkF m 97 #[.val (.ref a0_), .val (.ref a1_), .val (.ref a2_), .val (.int (-1)), .unset] [(.ref a0_), (.ref a0_)])) (fun target kt => ?_) ?_
  · refine XS.aloadN X44.here hx rfl (hb hby d9_95) rfl rfl ?_
    refine XS.dup X44.here hx rfl (hb hby d9_96) rfl rfl ?_
    exact kt
  have c48 := ((c18.other W28 (Or.inl nem)).other W36 (Or.inl nem)).other W44 (Or.inr (slot_ne (Or.inl (hw _ tw104)) (Or.inl (hw _ tw69)) (by decide) (t := .int) (t' := .int) (by decide) (by decide)))
  obtain ⟨T49, X49, e49, st49⟩ := getF X44 hx hZ hown (host := "") (Or.inl (hw _ tw103)) Via.refl e44 c48 (g := (mkF m 97 #[.val (.ref a0_), .val (.ref a1_), .val (.ref a2_), .val (.int (-1)), .unset] [(.ref a0_), (.ref a0_)])) rfl rfl (hb hby d9_97)
  refine GoW.st st49 ?_
  show GoW _ _ _ _ _ _ _ (T49.setTop (mkF m 100 _ [(.int pch), (.ref a0_)]))
  refine GoW.st (t' := T49.setTop (mkF m 102 #[.val (.ref a0_), .val (.ref a1_), .val (.ref a2_), .val (.int (-1)), .unset] [(.int (pch + (1 : Int32))), (.ref a0_)])) (fun target kt => ?_) ?_
  · refine XS.iconst X49.here hx rfl (hb hby d9_100) ?_
    refine XS.iadd X49.here hx rfl (hb hby d9_101) rfl ?_
    exact kt
  have c50 := c43.wr W44
  obtain ⟨T51, h51, X51, e51, W51, st51⟩ := putF X49 hx hZ hown (host := "") (Or.inl (hw _ tw103)) Via.refl e49 c48 c50 (Or.inl (hw _ tw104)) (hw _ tw1) (ty := .int) (by decide) rfl rfl (g := (mkF m 102 #[.val (.ref a0_), .val (.ref a1_), .val (.ref a2_), .val (.int (-1)), .unset] [(.int (pch + (1 : Int32))), (.ref a0_)])) rfl rfl (hb hby d9_102)
  have F52 : Fld Z h51 a0_ sq0 "changes" "I" (.int (pch + (1 : Int32))) := c48.same W51
  have K53 := K46.wr W51 (Or.inl (List.mem_of_getElem? (i := 0) rfl))
  have O54 := O47.wr W51 g0
  have N51 := Fr.snoc X51 N44 g0
  refine GoW.st st51 ?_
  show GoW _ _ _ _ _ _ _ (T51.setTop (mkF m 105 _ []))
  refine GoW.st (t' := T51.setTop (mkF m 106 #[.val (.ref a0_), .val (.ref a1_), .val (.ref a2_), .val (.int (-1)), .unset] [(.ref a0_)])) (fun target kt => ?_) ?_
  · refine XS.aloadN X51.here hx rfl (hb hby d9_105) rfl rfl ?_
    exact kt
  have c55 := (((c16.other W28 (Or.inl nem)).other W36 (Or.inl nem)).other W44 (Or.inr (slot_ne (Or.inl (hw _ tw67)) (Or.inl (hw _ tw69)) (by decide) (t := (.array .int)) (t' := .int) (by decide) (by decide)))).other W51 (Or.inr (slot_ne (Or.inl (hw _ tw67)) (Or.inl (hw _ tw104)) (by decide) (t := (.array .int)) (t' := .int) (by decide) (by decide)))
  obtain ⟨T56, X56, e56, st56⟩ := getF X51 hx hZ hown (host := "") (Or.inl (hw _ tw66)) Via.refl e51 c55 (g := (mkF m 106 #[.val (.ref a0_), .val (.ref a1_), .val (.ref a2_), .val (.int (-1)), .unset] [(.ref a0_)])) rfl rfl (hb hby d9_106)
  refine GoW.st st56 ?_
  show GoW _ _ _ _ _ _ _ (T56.setTop (mkF m 109 _ [.null]))
  refine GoW.st (t' := T56.setTop (mkF m 126 #[.val (.ref a0_), .val (.ref a1_), .val (.ref a2_), .val (.int (-1)), .unset] [(.ref a0_)])) (fun target kt => ?_) ?_
  · refine XS.ifnullYes X56.here hx rfl (pc0 := 109) (pc' := 125) rfl (hb hby d9_109) rfl (by decide) (by decide) ?_
    refine XS.aloadN X56.here hx rfl (hb hby d9_125) rfl rfl ?_
    exact kt
  have c57 := F45.other W51 (Or.inr (slot_ne (Or.inl (hw _ tw69)) (Or.inl (hw _ tw104)) (by decide) (t := .int) (t' := .int) (by decide) (by decide)))
  obtain ⟨T58, X58, e58, st58⟩ := getF X56 hx hZ hown (host := "") (Or.inl (hw _ tw68)) Via.refl e56 c57 (g := (mkF m 126 #[.val (.ref a0_), .val (.ref a1_), .val (.ref a2_), .val (.int (-1)), .unset] [(.ref a0_)])) rfl rfl (hb hby d9_126)
  refine GoW.st st58 ?_
  show GoW _ _ _ _ _ _ _ (T58.setTop (mkF m 129 _ [(.int 1)]))
  refine GoW.st (t' := T58.setTop (mkF m 139 #[.val (.ref a0_), .val (.ref a1_), .val (.ref a2_), .val (.int (-1)), .unset] [.null])) (fun target kt => ?_) ?_
  · refine XS.bipush X58.here hx rfl (hb hby d9_129) ?_
    refine XS.icmpYes X58.here hx rfl (pc0 := 131) (pc' := 138) rfl (hb hby d9_131) rfl (flt (by decide : ¬ ((8 : Int32) < (1 : Int32)))).2.2.2 (by decide) (by decide) ?_
    refine XS.aconstNull X58.here hx rfl (hb hby d9_138) ?_
    exact kt
  have c59 := c50.wr W51
  have c60 := ((c32.other W36 (Or.inl nem)).other W44 (Or.inr (slot_ne (Or.inl (hw _ tw17)) (Or.inl (hw _ tw69)) (by decide) (t := (.array (.object sq1))) (t' := .int) (by decide) (by decide)))).other W51 (Or.inr (slot_ne (Or.inl (hw _ tw17)) (Or.inl (hw _ tw104)) (by decide) (t := (.array (.object sq1))) (t' := .int) (by decide) (by decide)))
  have c61 := (((c19.wr W28).wr W36).wr W44).wr W51
  have c62 := (V38.other W44 (Ne.symm nem)).other W51 (Ne.symm nem)
  refine GoW.ret X58 hSi (by rw [e58]; exact (Nat.le_trans hk10 (Nat.le_trans (Nat.le_trans (Nat.le_trans (Keep.of_wr W28).1 (Keep.of_wr W36).1) (Keep.of_wr W44).1) (Keep.of_wr W51).1))) (v := some .null) (fun h => by rw [hret] at h; cases h) hlk (fun fs hr => retR X58 hx hret rfl rfl (hb hby d9_139) hr) ?_ (by decide) (by decide)
  show Q9_none_0_6_R Z a0_ a1_ a2_ pch wcs wm am km h0 n0 _ T58.heap _
  rw [e58]
  exact ⟨rfl, N51, K53, c59, c60, c55, c57, F52, c61, c62⟩
theorem d19_0 : decode jdk_65_method_30_code 0 = .ok (.iload_n 1, 1) := by decide +kernel
theorem d19_1 : decode jdk_65_method_30_code 1 = .ok (.iload_n 2, 1) := by decide +kernel
theorem d19_2 : decode jdk_65_method_30_code 2 = .ok (.if_icmp .le 44, 3) := by decide +kernel
theorem d19_46 : decode jdk_65_method_30_code 46 = .ok (.iload_n 1, 1) := by decide +kernel
theorem d19_47 : decode jdk_65_method_30_code 47 = .ok (.ifCond .ge 12, 3) := by decide +kernel
theorem d19_59 : decode jdk_65_method_30_code 59 = .ok (.iload_n 2, 1) := by decide +kernel
theorem d19_60 : decode jdk_65_method_30_code 60 = .ok (.iload_n 0, 1) := by decide +kernel
theorem d19_61 : decode jdk_65_method_30_code 61 = .ok (.if_icmp .le 12, 3) := by decide +kernel
theorem d19_73 : decode jdk_65_method_30_code 73 = .ok (.return_, 1) := by decide +kernel
theorem ef19_0_0 (m : MethodId)  : entryFrame m #[(.int 0), (.int 0), (.int 0)] 3 = mkF m 0 #[.val (.int 0), .val (.int 0), .val (.int 0)] [] := by first | (simp [entryFrame, mkF, argsToLocals, Value.category]; done) | rfl
def Q19_0_0 (Z : State)  (h0 : Heap) (n0 : Nat) (v : Option Value) (h : Heap) (L : List Loc) : Prop := v = none ∧ Fr n0 L ∧ h = h0
theorem rm19_0_0 (l : Launch) (Z : State) (a0 : Array Value) (hw : ∀ d ∈ tables_1, d.before a0 Z = true) (ws : List Jvm.Cond)  (h0 : Heap) (n0 : Nat) (Z0 : n0 ≤ h0.size) (O0 : Old Z n0 h0) :
    Met l Z ws (⟨"java/util/Arrays", "rangeCheck", "(III)V"⟩ : MethodName) jdk_65_method_30_code 3 none (Rm 0 0 0 0) #[(.int 0), (.int 0), (.int 0)] h0 (Q19_0_0 Z  h0 n0) := by
  refine Met.enter (L0 := #[.val (.int 0), .val (.int 0), .val (.int 0)]) (plainFor_of_name pn191) (fun m => ef19_0_0 m ) ?_
  intro p e s m below meth c s₁ hx hby hml hown hnm hret hlk hZ X0 e0
  have N0 := Fr.nil n0
  have K0 : Keep h0 h0 [] := Keep.refl h0 _
  refine Go.st (t' := s₁.setTop (mkF m 73 #[.val (.int 0), .val (.int 0), .val (.int 0)] [])) (fun target kt => ?_) ?_
  · refine XS.iloadN X0.here hx rfl (hb hby d19_0) rfl ?_
    refine XS.iloadN X0.here hx rfl (hb hby d19_1) rfl ?_
    refine XS.icmpYes X0.here hx rfl (pc0 := 2) (pc' := 46) rfl (hb hby d19_2) rfl (flt (by decide : ¬ ((0 : Int32) < (0 : Int32)))).2.2.2 (by decide) (by decide) ?_
    refine XS.iloadN X0.here hx rfl (hb hby d19_46) rfl ?_
    refine XS.ifYes X0.here hx rfl (pc0 := 47) (pc' := 59) rfl (hb hby d19_47) rfl ((if0 _ _).trans (flt (by decide : ¬ ((0 : Int32) < (0 : Int32)))).2.1) (by decide) (by decide) ?_
    refine XS.iloadN X0.here hx rfl (hb hby d19_59) rfl ?_
    refine XS.iloadN X0.here hx rfl (hb hby d19_60) rfl ?_
    refine XS.icmpYes X0.here hx rfl (pc0 := 61) (pc' := 73) rfl (hb hby d19_61) rfl (flt (by decide : ¬ ((0 : Int32) < (0 : Int32)))).2.2.2 (by decide) (by decide) ?_
    exact kt
  refine Go.ret X0 (v := none) (fun _ => rfl) hlk (fun fs hr => X0.returnOut hx hret (hb hby d19_73) hr) ?_ (by decide) (by decide)
  show Q19_0_0 Z  h0 n0 _ s₁.heap _
  rw [e0]
  exact ⟨rfl, N0, rfl⟩
theorem d18_0 : decode jdk_65_method_118_code 0 = .ok (.aload_n 0, 1) := by decide +kernel
theorem d18_1 : decode jdk_65_method_118_code 1 = .ok (.arraylength, 1) := by decide +kernel
theorem d18_2 : decode jdk_65_method_118_code 2 = .ok (.iload_n 1, 1) := by decide +kernel
theorem d18_3 : decode jdk_65_method_118_code 3 = .ok (.iload_n 2, 1) := by decide +kernel
theorem d18_4 : decode jdk_65_method_118_code 4 = .ok (.invokestatic 13, 3) := by decide +kernel
theorem tw113 : (Jvm.Cond.methodLink "java/util/Arrays" (13 : Nat) ({ cls := "java/util/Arrays", name := "rangeCheck", desc := "(III)V" } : Jvm.MethodName)) ∈ tables_1 := List.mem_of_getElem? (i := 113) rfl
theorem tw115 : (Jvm.Cond.code ({ cls := "java/util/Arrays", name := "rangeCheck", desc := "(III)V" } : Jvm.MethodName) jdk_65_method_30_code (3 : Nat) (Option.none : Option Jvm.ClassFile.FieldType)) ∈ tables_1 := List.mem_of_getElem? (i := 115) rfl
theorem pd12 : parseMethodDescriptor "(III)V" = some ⟨[.int, .int, .int], none⟩ := by decide +kernel
theorem tw114 : (Jvm.Cond.static ({ cls := "java/util/Arrays", name := "rangeCheck", desc := "(III)V" } : Jvm.MethodName)) ∈ tables_1 := List.mem_of_getElem? (i := 114) rfl
theorem d18_7 : decode jdk_65_method_118_code 7 = .ok (.iload_n 1, 1) := by decide +kernel
theorem d18_8 : decode jdk_65_method_118_code 8 = .ok (.istore 4, 2) := by decide +kernel
theorem d18_10 : decode jdk_65_method_118_code 10 = .ok (.iload 4, 2) := by decide +kernel
theorem d18_12 : decode jdk_65_method_118_code 12 = .ok (.iload_n 2, 1) := by decide +kernel
theorem d18_13 : decode jdk_65_method_118_code 13 = .ok (.if_icmp .ge 14, 3) := by decide +kernel
theorem d18_27 : decode jdk_65_method_118_code 27 = .ok (.return_, 1) := by decide +kernel
theorem ef18_0_0 (m : MethodId) (x0 : Addr) : entryFrame m #[(.ref x0), (.int 0), (.int 0), .null] 5 = mkF m 0 #[.val (.ref x0), .val (.int 0), .val (.int 0), .val .null, .unset] [] := by first | (simp [entryFrame, mkF, argsToLocals, Value.category]; done) | rfl
def Q18_0_0 (Z : State) (wn : Addr) (kn : ClassId) (h0 : Heap) (n0 : Nat) (v : Option Value) (h : Heap) (L : List Loc) : Prop := v = none ∧ Fr n0 L ∧ h = h0
theorem rm18_0_0 (l : Launch) (Z : State) (a0 : Array Value) (hw : ∀ d ∈ tables_1, d.before a0 Z = true) (ws : List Jvm.Cond) (wn : Addr) (kn : ClassId) (h0 : Heap) (n0 : Nat) (Z0 : n0 ≤ h0.size) (O0 : Old Z n0 h0) (V_wn : Arv Z Z.heap wn kn (.object sq1) (0 : Int32) [] .null) :
    Met l Z ws (⟨"java/util/Arrays", "fill", "([Ljava/lang/Object;IILjava/lang/Object;)V"⟩ : MethodName) jdk_65_method_118_code 5 none (Rm 1 0 0 14) #[(.ref wn), (.int 0), (.int 0), .null] h0 (Q18_0_0 Z wn kn h0 n0) := by
  refine Met.enter (L0 := #[.val (.ref wn), .val (.int 0), .val (.int 0), .val .null, .unset]) (plainFor_of_name pn191) (fun m => ef18_0_0 m wn) ?_
  intro p e s m below meth c s₁ hx hby hml hown hnm hret hlk hZ X0 e0
  have N0 := Fr.nil n0
  have K0 : Keep h0 h0 [] := Keep.refl h0 _
  obtain ⟨cl10, Ar10, -, S10, M10, -, -⟩ := id (V_wn.ext O0.2)
  refine Go.st (t' := s₁.setTop (mkF m 4 #[.val (.ref wn), .val (.int 0), .val (.int 0), .val .null, .unset] [(.int 0), (.int 0), (.int 0)])) (fun target kt => ?_) ?_
  · refine XS.aloadN X0.here hx rfl (hb hby d18_0) rfl rfl ?_
    refine X0.arraylength hx (by rw [e0]; exact Ar10.1) (State.isArrayOf_alike hZ.alike Ar10.2.1) (g := (mkF m 1 #[.val (.ref wn), .val (.int 0), .val (.int 0), .val .null, .unset] [(.ref wn)])) rfl rfl (hb hby d18_1) _ ?_
    rw [len_of S10 M10]
    refine XS.iloadN X0.here hx rfl (hb hby d18_2) rfl ?_
    refine XS.iloadN X0.here hx rfl (hb hby d18_3) rfl ?_
    exact kt
  obtain ⟨_, _, ⟨T11, L11, k11, n11⟩, -, X11, ⟨Lc11, hQ11, l11, y11, z11⟩, st11⟩ := Jvm.LawKit.callS X0 hx (y := (⟨"java/util/Arrays", "rangeCheck", "(III)V"⟩ : MethodName)) hown (mvT hZ (hw _ tw113)) (mvT hZ (hw _ tw114)) (mvT hZ (hw _ tw80)) (mvT hZ (hw _ tw115)) (by decide) (backOf (W := 0) (rm19_0_0 l Z a0 hw []  h0 n0 (Nat.le_trans Z0 K0.1) O0  ) hZ (hw _ tw115) (hw _ tw80) (by decide) (by decide)) (g := (mkF m 4 #[.val (.ref wn), .val (.int 0), .val (.int 0), .val .null, .unset] [(.int 0), (.int 0), (.int 0)])) rfl (by rw [hml]; rfl) (argsL := [(.int 0), (.int 0), (.int 0)]) (rest := []) (lenOf pd12 rfl) rfl (by show 2 * 0 + _ ≤ _; exact Nat.le_of_eq rfl) (hb hby d18_4) (fun _ _ => ⟨rfl, e0, (by decide : 0 + 0 ≤ _), (by decide : 0 + 0 ≤ _)⟩)
  dsimp only [Pt.U, Pt.locs, Pt.cells, Pt.slots] at X11 l11 y11 z11 st11 hQ11
  subst l11 y11 z11
  obtain ⟨rfl, Nq11, eq11⟩ := hQ11
  have N11 := Fr.app N0 Nq11
  refine Go.st st11 ?_
  show Go _ _ _ _ _ _ _ (T11.setTop (mkF m 7 _ []))
  refine Go.st (t' := T11.setTop (mkF m 27 #[.val (.ref wn), .val (.int 0), .val (.int 0), .val .null, .val (.int 0)] [])) (fun target kt => ?_) ?_
  · refine XS.iloadN X11.here hx rfl (hb hby d18_7) rfl ?_
    refine XS.istore X11.here hx rfl (hb hby d18_8) rfl (l' := #[.val (.ref wn), .val (.int 0), .val (.int 0), .val .null, .val (.int 0)]) rfl ?_
    refine XS.iload X11.here hx rfl (hb hby d18_10) rfl ?_
    refine XS.iloadN X11.here hx rfl (hb hby d18_12) rfl ?_
    refine XS.icmpYes X11.here hx rfl (pc0 := 13) (pc' := 27) rfl (hb hby d18_13) rfl (flt (by decide : ¬ ((0 : Int32) < (0 : Int32)))).2.1 (by decide) (by decide) ?_
    exact kt
  refine Go.ret X11 (v := none) (fun _ => rfl) hlk (fun fs hr => X11.returnOut hx hret (hb hby d18_27) hr) ?_ (by decide) (by decide)
  show Q18_0_0 Z wn kn h0 n0 _ T11.heap _
  rw [eq11]
  exact ⟨rfl, N11, rfl⟩
theorem d17_0 : decode prog_14_method_7_code 0 = .ok (.aload_n 0, 1) := by decide +kernel
theorem d17_1 : decode prog_14_method_7_code 1 = .ok (.getfield 13, 3) := by decide +kernel
theorem d17_4 : decode prog_14_method_7_code 4 = .ok (.iconst 0, 1) := by decide +kernel
theorem d17_5 : decode prog_14_method_7_code 5 = .ok (.iconst 2, 1) := by decide +kernel
theorem d17_6 : decode prog_14_method_7_code 6 = .ok (.aload_n 0, 1) := by decide +kernel
theorem d17_7 : decode prog_14_method_7_code 7 = .ok (.getfield 16, 3) := by decide +kernel
theorem d17_10 : decode prog_14_method_7_code 10 = .ok (.imul, 1) := by decide +kernel
theorem d17_11 : decode prog_14_method_7_code 11 = .ok (.aconst_null, 1) := by decide +kernel
theorem d17_12 : decode prog_14_method_7_code 12 = .ok (.invokestatic 52, 3) := by decide +kernel
theorem tw110 : (Jvm.Cond.methodLink "com/example/graphweave/graphweave/json/JsonObject" (52 : Nat) ({ cls := "java/util/Arrays", name := "fill", desc := "([Ljava/lang/Object;IILjava/lang/Object;)V" } : Jvm.MethodName)) ∈ tables_1 := List.mem_of_getElem? (i := 110) rfl
theorem tw112 : (Jvm.Cond.code ({ cls := "java/util/Arrays", name := "fill", desc := "([Ljava/lang/Object;IILjava/lang/Object;)V" } : Jvm.MethodName) jdk_65_method_118_code (5 : Nat) (Option.none : Option Jvm.ClassFile.FieldType)) ∈ tables_1 := List.mem_of_getElem? (i := 112) rfl
theorem pd13 : parseMethodDescriptor "([Ljava/lang/Object;IILjava/lang/Object;)V" = some ⟨[(.array (.object "java/lang/Object")), .int, .int, (.object "java/lang/Object")], none⟩ := by decide +kernel
theorem tw111 : (Jvm.Cond.static ({ cls := "java/util/Arrays", name := "fill", desc := "([Ljava/lang/Object;IILjava/lang/Object;)V" } : Jvm.MethodName)) ∈ tables_1 := List.mem_of_getElem? (i := 111) rfl
theorem d17_15 : decode prog_14_method_7_code 15 = .ok (.aload_n 0, 1) := by decide +kernel
theorem d17_16 : decode prog_14_method_7_code 16 = .ok (.iconst 0, 1) := by decide +kernel
theorem d17_17 : decode prog_14_method_7_code 17 = .ok (.putfield 16, 3) := by decide +kernel
theorem d17_20 : decode prog_14_method_7_code 20 = .ok (.aload_n 0, 1) := by decide +kernel
theorem d17_21 : decode prog_14_method_7_code 21 = .ok (.dup, 1) := by decide +kernel
theorem d17_22 : decode prog_14_method_7_code 22 = .ok (.getfield 35, 3) := by decide +kernel
theorem d17_25 : decode prog_14_method_7_code 25 = .ok (.iconst 1, 1) := by decide +kernel
theorem d17_26 : decode prog_14_method_7_code 26 = .ok (.iadd, 1) := by decide +kernel
theorem d17_27 : decode prog_14_method_7_code 27 = .ok (.putfield 35, 3) := by decide +kernel
theorem d17_30 : decode prog_14_method_7_code 30 = .ok (.aload_n 0, 1) := by decide +kernel
theorem d17_31 : decode prog_14_method_7_code 31 = .ok (.aconst_null, 1) := by decide +kernel
theorem d17_32 : decode prog_14_method_7_code 32 = .ok (.putfield 38, 3) := by decide +kernel
theorem d17_35 : decode prog_14_method_7_code 35 = .ok (.return_, 1) := by decide +kernel
theorem ef17_0_0 (m : MethodId) (x0 : Addr) : entryFrame m #[(.ref x0)] 1 = mkF m 0 #[.val (.ref x0)] [] := by first | (simp [entryFrame, mkF, argsToLocals, Value.category]; done) | rfl
def Q17_0_0 (Z : State) (a0_ : Addr) (wn : Addr) (kn : ClassId) (pch : Int32) (h0 : Heap) (n0 : Nat) (v : Option Value) (h : Heap) (L : List Loc) : Prop := v = none ∧ Fr n0 L ∧ Keep h0 h [a0_] ∧ Exa Z h a0_ sq0 ∧ Fld Z h a0_ sq0 "members" sq3 (.ref wn) ∧ Fld Z h a0_ sq0 "index" "[I" .null ∧ Fld Z h a0_ sq0 "size" "I" (.int 0) ∧ Fld Z h a0_ sq0 "changes" "I" (.int (pch + (1 : Int32)))
theorem rm17_0_0 (l : Launch) (Z : State) (a0 : Array Value) (hw : ∀ d ∈ tables_1, d.before a0 Z = true) (ws : List Jvm.Cond) (a0_ : Addr) (wn : Addr) (kn : ClassId) (pch : Int32) (h0 : Heap) (n0 : Nat) (Z0 : n0 ≤ h0.size) (O0 : Old Z n0 h0) (V_wn : Arv Z Z.heap wn kn (.object sq1) (0 : Int32) [] .null) (E_wn : Exa Z Z.heap wn sq3) (E0 : Exa Z h0 a0_ sq0) (F_m : Fld Z h0 a0_ sq0 "members" sq3 (.ref wn)) (F_i : Fld Z h0 a0_ sq0 "index" "[I" .null) (F_s : Fld Z h0 a0_ sq0 "size" "I" (.int 0)) (F_c : Fld Z h0 a0_ sq0 "changes" "I" (.int pch)) (g0 : n0 ≤ a0_) :
    Met l Z ws (⟨sq0, "clear", "()V"⟩ : MethodName) prog_14_method_7_code 1 none (Rm 2 0 0 30) #[(.ref a0_)] h0 (Q17_0_0 Z a0_ wn kn pch h0 n0) := by
  refine Met.enter (L0 := #[.val (.ref a0_)]) (plainFor_of_name pn10) (fun m => ef17_0_0 m a0_) ?_
  intro p e s m below meth c s₁ hx hby hml hown hnm hret hlk hZ X0 e0
  have N0 := Fr.nil n0
  have K0 : Keep h0 h0 [a0_] := Keep.refl h0 _
  refine Go.st (t' := s₁.setTop (mkF m 1 #[.val (.ref a0_)] [(.ref a0_)])) (fun target kt => ?_) ?_
  · refine XS.aloadN X0.here hx rfl (hb hby d17_0) rfl rfl ?_
    exact kt
  obtain ⟨T10, X10, e10, st10⟩ := getF X0 hx hZ hown (host := "") (Or.inl (hw _ tw16)) Via.refl e0 F_m (g := (mkF m 1 #[.val (.ref a0_)] [(.ref a0_)])) rfl rfl (hb hby d17_1)
  refine Go.st st10 ?_
  show Go _ _ _ _ _ _ _ (T10.setTop (mkF m 4 _ [(.ref wn)]))
  refine Go.st (t' := T10.setTop (mkF m 7 #[.val (.ref a0_)] [(.ref a0_), (.int 2), (.int 0), (.ref wn)])) (fun target kt => ?_) ?_
  · refine XS.iconst X10.here hx rfl (hb hby d17_4) ?_
    refine XS.iconst X10.here hx rfl (hb hby d17_5) ?_
    refine XS.aloadN X10.here hx rfl (hb hby d17_6) rfl rfl ?_
    exact kt
  obtain ⟨T11, X11, e11, st11⟩ := getF X10 hx hZ hown (host := "") (Or.inl (hw _ tw68)) Via.refl e10 F_s (g := (mkF m 7 #[.val (.ref a0_)] [(.ref a0_), (.int 2), (.int 0), (.ref wn)])) rfl rfl (hb hby d17_7)
  refine Go.st st11 ?_
  show Go _ _ _ _ _ _ _ (T11.setTop (mkF m 10 _ [(.int 0), (.int 2), (.int 0), (.ref wn)]))
  refine Go.st (t' := T11.setTop (mkF m 12 #[.val (.ref a0_)] [.null, (.int 0), (.int 0), (.ref wn)])) (fun target kt => ?_) ?_
  · refine XS.imul X11.here hx rfl (hb hby d17_10) rfl ?_
    refine XS.aconstNull X11.here hx rfl (hb hby d17_11) ?_
    exact kt
  obtain ⟨_, _, ⟨T12, L12, k12, n12⟩, -, X12, ⟨Lc12, hQ12, l12, y12, z12⟩, st12⟩ := Jvm.LawKit.callS X11 hx (y := (⟨"java/util/Arrays", "fill", "([Ljava/lang/Object;IILjava/lang/Object;)V"⟩ : MethodName)) hown (mvT hZ (hw _ tw110)) (mvT hZ (hw _ tw111)) (mvT hZ (hw _ tw80)) (mvT hZ (hw _ tw112)) (by decide) (backOf (W := 0) (rm18_0_0 l Z a0 hw [] wn kn h0 n0 (Nat.le_trans Z0 K0.1) O0 V_wn ) hZ (hw _ tw112) (hw _ tw80) (by decide) (by decide)) (g := (mkF m 12 #[.val (.ref a0_)] [.null, (.int 0), (.int 0), (.ref wn)])) rfl (by rw [hml]; rfl) (argsL := [(.ref wn), (.int 0), (.int 0), .null]) (rest := []) (lenOf pd13 rfl) rfl (by show 2 * 0 + _ ≤ _; exact Nat.le_of_eq rfl) (hb hby d17_12) (fun _ _ => ⟨rfl, e11, (by decide : 0 + 0 ≤ _), (by decide : 0 + 0 ≤ _)⟩)
  dsimp only [Pt.U, Pt.locs, Pt.cells, Pt.slots] at X12 l12 y12 z12 st12 hQ12
  subst l12 y12 z12
  obtain ⟨rfl, Nq12, eq12⟩ := hQ12
  have N12 := Fr.app N0 Nq12
  refine Go.st st12 ?_
  show Go _ _ _ _ _ _ _ (T12.setTop (mkF m 15 _ []))
  refine Go.st (t' := T12.setTop (mkF m 17 #[.val (.ref a0_)] [(.int 0), (.ref a0_)])) (fun target kt => ?_) ?_
  · refine XS.aloadN X12.here hx rfl (hb hby d17_15) rfl rfl ?_
    refine XS.iconst X12.here hx rfl (hb hby d17_16) ?_
    exact kt
  obtain ⟨T13, h13, X13, e13, W13, st13⟩ := putF X12 hx hZ hown (host := "") (Or.inl (hw _ tw68)) Via.refl eq12 F_s E0 (Or.inl (hw _ tw69)) (hw _ tw1) (ty := .int) (by decide) rfl rfl (g := (mkF m 17 #[.val (.ref a0_)] [(.int 0), (.ref a0_)])) rfl rfl (hb hby d17_17)
  have F14 : Fld Z h13 a0_ sq0 "size" "I" (.int 0) := F_s.same W13
  have K15 := K0.wr W13 (Or.inl (List.mem_of_getElem? (i := 0) rfl))
  have O16 := O0.wr W13 g0
  have N13 := Fr.snoc X13 N12 g0
  refine Go.st st13 ?_
  show Go _ _ _ _ _ _ _ (T13.setTop (mkF m 20 _ []))
  refine Go.st (t' := T13.setTop (mkF m 22 #[.val (.ref a0_)] [(.ref a0_), (.ref a0_)])) (fun target kt => ?_) ?_
  · refine XS.aloadN X13.here hx rfl (hb hby d17_20) rfl rfl ?_
    refine XS.dup X13.here hx rfl (hb hby d17_21) rfl rfl ?_
    exact kt
  have c17 := F_c.other W13 (Or.inr (slot_ne (Or.inl (hw _ tw104)) (Or.inl (hw _ tw69)) (by decide) (t := .int) (t' := .int) (by decide) (by decide)))
  obtain ⟨T18, X18, e18, st18⟩ := getF X13 hx hZ hown (host := "") (Or.inl (hw _ tw103)) Via.refl e13 c17 (g := (mkF m 22 #[.val (.ref a0_)] [(.ref a0_), (.ref a0_)])) rfl rfl (hb hby d17_22)
  refine Go.st st18 ?_
  show Go _ _ _ _ _ _ _ (T18.setTop (mkF m 25 _ [(.int pch), (.ref a0_)]))
  refine Go.st (t' := T18.setTop (mkF m 27 #[.val (.ref a0_)] [(.int (pch + (1 : Int32))), (.ref a0_)])) (fun target kt => ?_) ?_
  · refine XS.iconst X18.here hx rfl (hb hby d17_25) ?_
    refine XS.iadd X18.here hx rfl (hb hby d17_26) rfl ?_
    exact kt
  have c19 := E0.wr W13
  obtain ⟨T20, h20, X20, e20, W20, st20⟩ := putF X18 hx hZ hown (host := "") (Or.inl (hw _ tw103)) Via.refl e18 c17 c19 (Or.inl (hw _ tw104)) (hw _ tw1) (ty := .int) (by decide) rfl rfl (g := (mkF m 27 #[.val (.ref a0_)] [(.int (pch + (1 : Int32))), (.ref a0_)])) rfl rfl (hb hby d17_27)
  have F21 : Fld Z h20 a0_ sq0 "changes" "I" (.int (pch + (1 : Int32))) := c17.same W20
  have K22 := K15.wr W20 (Or.inl (List.mem_of_getElem? (i := 0) rfl))
  have O23 := O16.wr W20 g0
  have N20 := Fr.snoc X20 N13 g0
  refine Go.st st20 ?_
  show Go _ _ _ _ _ _ _ (T20.setTop (mkF m 30 _ []))
  refine Go.st (t' := T20.setTop (mkF m 32 #[.val (.ref a0_)] [.null, (.ref a0_)])) (fun target kt => ?_) ?_
  · refine XS.aloadN X20.here hx rfl (hb hby d17_30) rfl rfl ?_
    refine XS.aconstNull X20.here hx rfl (hb hby d17_31) ?_
    exact kt
  have c24 := (F_i.other W13 (Or.inr (slot_ne (Or.inl (hw _ tw67)) (Or.inl (hw _ tw69)) (by decide) (t := (.array .int)) (t' := .int) (by decide) (by decide)))).other W20 (Or.inr (slot_ne (Or.inl (hw _ tw67)) (Or.inl (hw _ tw104)) (by decide) (t := (.array .int)) (t' := .int) (by decide) (by decide)))
  have c25 := c19.wr W20
  obtain ⟨T26, h26, X26, e26, W26, st26⟩ := putF X20 hx hZ hown (host := "") (Or.inl (hw _ tw66)) Via.refl e20 c24 c25 (Or.inl (hw _ tw67)) (hw _ tw1) (ty := (.array .int)) (by decide) rfl rfl (g := (mkF m 32 #[.val (.ref a0_)] [.null, (.ref a0_)])) rfl rfl (hb hby d17_32)
  have F27 : Fld Z h26 a0_ sq0 "index" "[I" .null := c24.same W26
  have K28 := K22.wr W26 (Or.inl (List.mem_of_getElem? (i := 0) rfl))
  have O29 := O23.wr W26 g0
  have N26 := Fr.snoc X26 N20 g0
  refine Go.st st26 ?_
  show Go _ _ _ _ _ _ _ (T26.setTop (mkF m 35 _ []))
  have c30 := c25.wr W26
  have c31 := ((F_m.other W13 (Or.inr (slot_ne (Or.inl (hw _ tw17)) (Or.inl (hw _ tw69)) (by decide) (t := (.array (.object sq1))) (t' := .int) (by decide) (by decide)))).other W20 (Or.inr (slot_ne (Or.inl (hw _ tw17)) (Or.inl (hw _ tw104)) (by decide) (t := (.array (.object sq1))) (t' := .int) (by decide) (by decide)))).other W26 (Or.inr (slot_ne (Or.inl (hw _ tw17)) (Or.inl (hw _ tw67)) (by decide) (t := (.array (.object sq1))) (t' := (.array .int)) (by decide) (by decide)))
  have c32 := (F14.other W20 (Or.inr (slot_ne (Or.inl (hw _ tw69)) (Or.inl (hw _ tw104)) (by decide) (t := .int) (t' := .int) (by decide) (by decide)))).other W26 (Or.inr (slot_ne (Or.inl (hw _ tw69)) (Or.inl (hw _ tw67)) (by decide) (t := .int) (t' := (.array .int)) (by decide) (by decide)))
  have c33 := F21.other W26 (Or.inr (slot_ne (Or.inl (hw _ tw104)) (Or.inl (hw _ tw67)) (by decide) (t := .int) (t' := (.array .int)) (by decide) (by decide)))
  refine Go.ret X26 (v := none) (fun _ => rfl) hlk (fun fs hr => X26.returnOut hx hret (hb hby d17_35) hr) ?_ (by decide) (by decide)
  show Q17_0_0 Z a0_ wn kn pch h0 n0 _ T26.heap _
  rw [e26]
  exact ⟨rfl, N26, K28, c30, c31, F27, c32, c33⟩
theorem ef19_4_1 (m : MethodId)  : entryFrame m #[(.int 4), (.int 0), (.int 2)] 3 = mkF m 0 #[.val (.int 4), .val (.int 0), .val (.int 2)] [] := by first | (simp [entryFrame, mkF, argsToLocals, Value.category]; done) | rfl
def Q19_4_1 (Z : State)  (h0 : Heap) (n0 : Nat) (v : Option Value) (h : Heap) (L : List Loc) : Prop := v = none ∧ Fr n0 L ∧ h = h0
theorem rm19_4_1 (l : Launch) (Z : State) (a0 : Array Value) (hw : ∀ d ∈ tables_1, d.before a0 Z = true) (ws : List Jvm.Cond)  (h0 : Heap) (n0 : Nat) (Z0 : n0 ≤ h0.size) (O0 : Old Z n0 h0) :
    Met l Z ws (⟨"java/util/Arrays", "rangeCheck", "(III)V"⟩ : MethodName) jdk_65_method_30_code 3 none (Rm 0 0 0 0) #[(.int 4), (.int 0), (.int 2)] h0 (Q19_4_1 Z  h0 n0) := by
  refine Met.enter (L0 := #[.val (.int 4), .val (.int 0), .val (.int 2)]) (plainFor_of_name pn191) (fun m => ef19_4_1 m ) ?_
  intro p e s m below meth c s₁ hx hby hml hown hnm hret hlk hZ X0 e0
  have N0 := Fr.nil n0
  have K0 : Keep h0 h0 [] := Keep.refl h0 _
  refine Go.st (t' := s₁.setTop (mkF m 73 #[.val (.int 4), .val (.int 0), .val (.int 2)] [])) (fun target kt => ?_) ?_
  · refine XS.iloadN X0.here hx rfl (hb hby d19_0) rfl ?_
    refine XS.iloadN X0.here hx rfl (hb hby d19_1) rfl ?_
    refine XS.icmpYes X0.here hx rfl (pc0 := 2) (pc' := 46) rfl (hb hby d19_2) rfl (flt (by decide : ¬ ((2 : Int32) < (0 : Int32)))).2.2.2 (by decide) (by decide) ?_
    refine XS.iloadN X0.here hx rfl (hb hby d19_46) rfl ?_
    refine XS.ifYes X0.here hx rfl (pc0 := 47) (pc' := 59) rfl (hb hby d19_47) rfl ((if0 _ _).trans (flt (by decide : ¬ ((0 : Int32) < (0 : Int32)))).2.1) (by decide) (by decide) ?_
    refine XS.iloadN X0.here hx rfl (hb hby d19_59) rfl ?_
    refine XS.iloadN X0.here hx rfl (hb hby d19_60) rfl ?_
    refine XS.icmpYes X0.here hx rfl (pc0 := 61) (pc' := 73) rfl (hb hby d19_61) rfl (flt (by decide : ¬ ((4 : Int32) < (2 : Int32)))).2.2.2 (by decide) (by decide) ?_
    exact kt
  refine Go.ret X0 (v := none) (fun _ => rfl) hlk (fun fs hr => X0.returnOut hx hret (hb hby d19_73) hr) ?_ (by decide) (by decide)
  show Q19_4_1 Z  h0 n0 _ s₁.heap _
  rw [e0]
  exact ⟨rfl, N0, rfl⟩
theorem d18_16 : decode jdk_65_method_118_code 16 = .ok (.aload_n 0, 1) := by decide +kernel
theorem d18_17 : decode jdk_65_method_118_code 17 = .ok (.iload 4, 2) := by decide +kernel
theorem d18_19 : decode jdk_65_method_118_code 19 = .ok (.aload_n 3, 1) := by decide +kernel
theorem d18_20 : decode jdk_65_method_118_code 20 = .ok (.aastore, 1) := by decide +kernel
theorem d18_21 : decode jdk_65_method_118_code 21 = .ok (.iinc 4 1, 3) := by decide +kernel
theorem d18_24 : decode jdk_65_method_118_code 24 = .ok (.goto (-14), 3) := by decide +kernel
theorem ef18_4_1 (m : MethodId) (x0 : Addr) : entryFrame m #[(.ref x0), (.int 0), (.int 2), .null] 5 = mkF m 0 #[.val (.ref x0), .val (.int 0), .val (.int 2), .val .null, .unset] [] := by first | (simp [entryFrame, mkF, argsToLocals, Value.category]; done) | rfl
def Q18_4_1 (Z : State) (am : Addr) (km : ClassId) (ev0 : Value) (ev1 : Value) (h0 : Heap) (n0 : Nat) (v : Option Value) (h : Heap) (L : List Loc) : Prop := v = none ∧ Fr n0 L ∧ Keep h0 h [am] ∧ Arv Z h am km (.object sq1) (4 : Int32) [.null, .null, .null, .null] .null
theorem rm18_4_1 (l : Launch) (Z : State) (a0 : Array Value) (hw : ∀ d ∈ tables_1, d.before a0 Z = true) (ws : List Jvm.Cond) (am : Addr) (km : ClassId) (ev0 : Value) (ev1 : Value) (h0 : Heap) (n0 : Nat) (Z0 : n0 ≤ h0.size) (O0 : Old Z n0 h0) (V_m : Arv Z h0 am km (.object sq1) (4 : Int32) [ev0, ev1, .null, .null] .null) (gm : n0 ≤ am) :
    Met l Z ws (⟨"java/util/Arrays", "fill", "([Ljava/lang/Object;IILjava/lang/Object;)V"⟩ : MethodName) jdk_65_method_118_code 5 none (Rm 1 0 0 14) #[(.ref am), (.int 0), (.int 2), .null] h0 (Q18_4_1 Z am km ev0 ev1 h0 n0) := by
  refine Met.enter (L0 := #[.val (.ref am), .val (.int 0), .val (.int 2), .val .null, .unset]) (plainFor_of_name pn191) (fun m => ef18_4_1 m am) ?_
  intro p e s m below meth c s₁ hx hby hml hown hnm hret hlk hZ X0 e0
  have N0 := Fr.nil n0
  have K0 : Keep h0 h0 [am] := Keep.refl h0 _
  obtain ⟨cl10, Ar10, -, S10, M10, -, -⟩ := id V_m
  refine Go.st (t' := s₁.setTop (mkF m 4 #[.val (.ref am), .val (.int 0), .val (.int 2), .val .null, .unset] [(.int 2), (.int 0), (.int 4)])) (fun target kt => ?_) ?_
  · refine XS.aloadN X0.here hx rfl (hb hby d18_0) rfl rfl ?_
    refine X0.arraylength hx (by rw [e0]; exact Ar10.1) (State.isArrayOf_alike hZ.alike Ar10.2.1) (g := (mkF m 1 #[.val (.ref am), .val (.int 0), .val (.int 2), .val .null, .unset] [(.ref am)])) rfl rfl (hb hby d18_1) _ ?_
    rw [len_of S10 M10]
    refine XS.iloadN X0.here hx rfl (hb hby d18_2) rfl ?_
    refine XS.iloadN X0.here hx rfl (hb hby d18_3) rfl ?_
    exact kt
  obtain ⟨_, _, ⟨T11, L11, k11, n11⟩, -, X11, ⟨Lc11, hQ11, l11, y11, z11⟩, st11⟩ := Jvm.LawKit.callS X0 hx (y := (⟨"java/util/Arrays", "rangeCheck", "(III)V"⟩ : MethodName)) hown (mvT hZ (hw _ tw113)) (mvT hZ (hw _ tw114)) (mvT hZ (hw _ tw80)) (mvT hZ (hw _ tw115)) (by decide) (backOf (W := 0) (rm19_4_1 l Z a0 hw []  h0 n0 (Nat.le_trans Z0 K0.1) O0  ) hZ (hw _ tw115) (hw _ tw80) (by decide) (by decide)) (g := (mkF m 4 #[.val (.ref am), .val (.int 0), .val (.int 2), .val .null, .unset] [(.int 2), (.int 0), (.int 4)])) rfl (by rw [hml]; rfl) (argsL := [(.int 4), (.int 0), (.int 2)]) (rest := []) (lenOf pd12 rfl) rfl (by show 2 * 0 + _ ≤ _; exact Nat.le_of_eq rfl) (hb hby d18_4) (fun _ _ => ⟨rfl, e0, (by decide : 0 + 0 ≤ _), (by decide : 0 + 0 ≤ _)⟩)
  dsimp only [Pt.U, Pt.locs, Pt.cells, Pt.slots] at X11 l11 y11 z11 st11 hQ11
  subst l11 y11 z11
  obtain ⟨rfl, Nq11, eq11⟩ := hQ11
  have N11 := Fr.app N0 Nq11
  refine Go.st st11 ?_
  show Go _ _ _ _ _ _ _ (T11.setTop (mkF m 7 _ []))
  refine Go.st (t' := T11.setTop (mkF m 20 #[.val (.ref am), .val (.int 0), .val (.int 2), .val .null, .val (.int 0)] [.null, (.int 0), (.ref am)])) (fun target kt => ?_) ?_
  · refine XS.iloadN X11.here hx rfl (hb hby d18_7) rfl ?_
    refine XS.istore X11.here hx rfl (hb hby d18_8) rfl (l' := #[.val (.ref am), .val (.int 0), .val (.int 2), .val .null, .val (.int 0)]) rfl ?_
    refine XS.iload X11.here hx rfl (hb hby d18_10) rfl ?_
    refine XS.iloadN X11.here hx rfl (hb hby d18_12) rfl ?_
    refine XS.icmpNo X11.here hx rfl (hb hby d18_13) rfl (tlt (by decide : (0 : Int32) < (2 : Int32))).2.1 ?_
    refine XS.aloadN X11.here hx rfl (hb hby d18_16) rfl rfl ?_
    refine XS.iload X11.here hx rfl (hb hby d18_17) rfl ?_
    refine XS.aloadN X11.here hx rfl (hb hby d18_19) rfl rfl ?_
    exact kt
  obtain ⟨cl12, Ar12, q12, S12, M12, H12, G12⟩ := id V_m
  have hin12 : ¬ ((0 : Int32) < 0 ∨ cl12.slots.size ≤ ((0 : Int32)).toNatClampNeg) := inb_of S12 ⟨by decide, by decide⟩
  obtain ⟨T12, h12, X12, e12, W12, st12⟩ := stR X11 hx hZ eq11 Ar12 (j := (0 : Int32)) hin12 rfl (Or.inl rfl) (g := (mkF m 20 #[.val (.ref am), .val (.int 0), .val (.int 2), .val .null, .val (.int 0)] [.null, (.int 0), (.ref am)])) rfl rfl (hb hby d18_20)
  have V13 : Arv Z h12 am km (.object sq1) (4 : Int32) [.null, ev1, .null, .null] .null := Arv.set Ar12 q12 S12 M12 H12 G12 rfl W12 0 rfl (Nat.le_of_ble_eq_true rfl)
  have K14 := K0.wr W12 (Or.inl (List.mem_of_getElem? (i := 0) rfl))
  have O15 := O0.wr W12 gm
  have N12 := Fr.snoc X12 N11 gm
  refine Go.st st12 ?_
  show Go _ _ _ _ _ _ _ (T12.setTop (mkF m 21 _ []))
  refine Go.st (t' := T12.setTop (mkF m 20 #[.val (.ref am), .val (.int 0), .val (.int 2), .val .null, .val (.int 1)] [.null, (.int 1), (.ref am)])) (fun target kt => ?_) ?_
  · refine XS.iinc X12.here hx rfl (hb hby d18_21) rfl (l' := #[.val (.ref am), .val (.int 0), .val (.int 2), .val .null, .val (.int 1)]) rfl ?_
    refine XS.goto X12.here hx rfl (pc0 := 24) (pc' := 10) rfl (hb hby d18_24) (by decide) (by decide) ?_
    refine XS.iload X12.here hx rfl (hb hby d18_10) rfl ?_
    refine XS.iloadN X12.here hx rfl (hb hby d18_12) rfl ?_
    refine XS.icmpNo X12.here hx rfl (hb hby d18_13) rfl (tlt (by decide : (1 : Int32) < (2 : Int32))).2.1 ?_
    refine XS.aloadN X12.here hx rfl (hb hby d18_16) rfl rfl ?_
    refine XS.iload X12.here hx rfl (hb hby d18_17) rfl ?_
    refine XS.aloadN X12.here hx rfl (hb hby d18_19) rfl rfl ?_
    exact kt
  obtain ⟨cl16, Ar16, q16, S16, M16, H16, G16⟩ := id V13
  have hin16 : ¬ ((1 : Int32) < 0 ∨ cl16.slots.size ≤ ((1 : Int32)).toNatClampNeg) := inb_of S16 ⟨by decide, by decide⟩
  obtain ⟨T16, h16, X16, e16, W16, st16⟩ := stR X12 hx hZ e12 Ar16 (j := (1 : Int32)) hin16 rfl (Or.inl rfl) (g := (mkF m 20 #[.val (.ref am), .val (.int 0), .val (.int 2), .val .null, .val (.int 1)] [.null, (.int 1), (.ref am)])) rfl rfl (hb hby d18_20)
  have V17 : Arv Z h16 am km (.object sq1) (4 : Int32) [.null, .null, .null, .null] .null := Arv.set Ar16 q16 S16 M16 H16 G16 rfl W16 1 rfl (Nat.le_of_ble_eq_true rfl)
  have K18 := K14.wr W16 (Or.inl (List.mem_of_getElem? (i := 0) rfl))
  have O19 := O15.wr W16 gm
  have N16 := Fr.snoc X16 N12 gm
  refine Go.st st16 ?_
  show Go _ _ _ _ _ _ _ (T16.setTop (mkF m 21 _ []))
  refine Go.st (t' := T16.setTop (mkF m 27 #[.val (.ref am), .val (.int 0), .val (.int 2), .val .null, .val (.int 2)] [])) (fun target kt => ?_) ?_
  · refine XS.iinc X16.here hx rfl (hb hby d18_21) rfl (l' := #[.val (.ref am), .val (.int 0), .val (.int 2), .val .null, .val (.int 2)]) rfl ?_
    refine XS.goto X16.here hx rfl (pc0 := 24) (pc' := 10) rfl (hb hby d18_24) (by decide) (by decide) ?_
    refine XS.iload X16.here hx rfl (hb hby d18_10) rfl ?_
    refine XS.iloadN X16.here hx rfl (hb hby d18_12) rfl ?_
    refine XS.icmpYes X16.here hx rfl (pc0 := 13) (pc' := 27) rfl (hb hby d18_13) rfl (flt (by decide : ¬ ((2 : Int32) < (2 : Int32)))).2.1 (by decide) (by decide) ?_
    exact kt
  refine Go.ret X16 (v := none) (fun _ => rfl) hlk (fun fs hr => X16.returnOut hx hret (hb hby d18_27) hr) ?_ (by decide) (by decide)
  show Q18_4_1 Z am km ev0 ev1 h0 n0 _ T16.heap _
  rw [e16]
  exact ⟨rfl, N16, K18, V17⟩
theorem ef17_4_1 (m : MethodId) (x0 : Addr) : entryFrame m #[(.ref x0)] 1 = mkF m 0 #[.val (.ref x0)] [] := by first | (simp [entryFrame, mkF, argsToLocals, Value.category]; done) | rfl
def Q17_4_1 (Z : State) (a0_ : Addr) (am : Addr) (km : ClassId) (ev0 : Value) (ev1 : Value) (pch : Int32) (h0 : Heap) (n0 : Nat) (v : Option Value) (h : Heap) (L : List Loc) : Prop := v = none ∧ Fr n0 L ∧ Keep h0 h [a0_, am] ∧ Exa Z h a0_ sq0 ∧ Fld Z h a0_ sq0 "members" sq3 (.ref am) ∧ Fld Z h a0_ sq0 "index" "[I" .null ∧ Fld Z h a0_ sq0 "size" "I" (.int 0) ∧ Fld Z h a0_ sq0 "changes" "I" (.int (pch + (1 : Int32))) ∧ Exa Z h am sq3 ∧ Arv Z h am km (.object sq1) (4 : Int32) [.null, .null, .null, .null] .null
theorem rm17_4_1 (l : Launch) (Z : State) (a0 : Array Value) (hw : ∀ d ∈ tables_1, d.before a0 Z = true) (ws : List Jvm.Cond) (a0_ : Addr) (am : Addr) (km : ClassId) (ev0 : Value) (ev1 : Value) (pch : Int32) (h0 : Heap) (n0 : Nat) (Z0 : n0 ≤ h0.size) (O0 : Old Z n0 h0) (E0 : Exa Z h0 a0_ sq0) (F_m : Fld Z h0 a0_ sq0 "members" sq3 (.ref am)) (F_i : Fld Z h0 a0_ sq0 "index" "[I" .null) (F_s : Fld Z h0 a0_ sq0 "size" "I" (.int 1)) (F_c : Fld Z h0 a0_ sq0 "changes" "I" (.int pch)) (E_m : Exa Z h0 am sq3) (V_m : Arv Z h0 am km (.object sq1) (4 : Int32) [ev0, ev1, .null, .null] .null) (g0 : n0 ≤ a0_) (gm : n0 ≤ am) (nem : a0_ ≠ am) :
    Met l Z ws (⟨sq0, "clear", "()V"⟩ : MethodName) prog_14_method_7_code 1 none (Rm 2 0 0 30) #[(.ref a0_)] h0 (Q17_4_1 Z a0_ am km ev0 ev1 pch h0 n0) := by
  refine Met.enter (L0 := #[.val (.ref a0_)]) (plainFor_of_name pn10) (fun m => ef17_4_1 m a0_) ?_
  intro p e s m below meth c s₁ hx hby hml hown hnm hret hlk hZ X0 e0
  have N0 := Fr.nil n0
  have K0 : Keep h0 h0 [a0_, am] := Keep.refl h0 _
  refine Go.st (t' := s₁.setTop (mkF m 1 #[.val (.ref a0_)] [(.ref a0_)])) (fun target kt => ?_) ?_
  · refine XS.aloadN X0.here hx rfl (hb hby d17_0) rfl rfl ?_
    exact kt
  obtain ⟨T10, X10, e10, st10⟩ := getF X0 hx hZ hown (host := "") (Or.inl (hw _ tw16)) Via.refl e0 F_m (g := (mkF m 1 #[.val (.ref a0_)] [(.ref a0_)])) rfl rfl (hb hby d17_1)
  refine Go.st st10 ?_
  show Go _ _ _ _ _ _ _ (T10.setTop (mkF m 4 _ [(.ref am)]))
  refine Go.st (t' := T10.setTop (mkF m 7 #[.val (.ref a0_)] [(.ref a0_), (.int 2), (.int 0), (.ref am)])) (fun target kt => ?_) ?_
  · refine XS.iconst X10.here hx rfl (hb hby d17_4) ?_
    refine XS.iconst X10.here hx rfl (hb hby d17_5) ?_
    refine XS.aloadN X10.here hx rfl (hb hby d17_6) rfl rfl ?_
    exact kt
  obtain ⟨T11, X11, e11, st11⟩ := getF X10 hx hZ hown (host := "") (Or.inl (hw _ tw68)) Via.refl e10 F_s (g := (mkF m 7 #[.val (.ref a0_)] [(.ref a0_), (.int 2), (.int 0), (.ref am)])) rfl rfl (hb hby d17_7)
  refine Go.st st11 ?_
  show Go _ _ _ _ _ _ _ (T11.setTop (mkF m 10 _ [(.int 1), (.int 2), (.int 0), (.ref am)]))
  refine Go.st (t' := T11.setTop (mkF m 12 #[.val (.ref a0_)] [.null, (.int 2), (.int 0), (.ref am)])) (fun target kt => ?_) ?_
  · refine XS.imul X11.here hx rfl (hb hby d17_10) rfl ?_
    refine XS.aconstNull X11.here hx rfl (hb hby d17_11) ?_
    exact kt
  obtain ⟨_, _, ⟨T12, L12, k12, n12⟩, -, X12, ⟨Lc12, hQ12, l12, y12, z12⟩, st12⟩ := Jvm.LawKit.callS X11 hx (y := (⟨"java/util/Arrays", "fill", "([Ljava/lang/Object;IILjava/lang/Object;)V"⟩ : MethodName)) hown (mvT hZ (hw _ tw110)) (mvT hZ (hw _ tw111)) (mvT hZ (hw _ tw80)) (mvT hZ (hw _ tw112)) (by decide) (backOf (W := 0) (rm18_4_1 l Z a0 hw [] am km ev0 ev1 h0 n0 (Nat.le_trans Z0 K0.1) O0  V_m gm) hZ (hw _ tw112) (hw _ tw80) (by decide) (by decide)) (g := (mkF m 12 #[.val (.ref a0_)] [.null, (.int 2), (.int 0), (.ref am)])) rfl (by rw [hml]; rfl) (argsL := [(.ref am), (.int 0), (.int 2), .null]) (rest := []) (lenOf pd13 rfl) rfl (by show 2 * 0 + _ ≤ _; exact Nat.le_of_eq rfl) (hb hby d17_12) (fun _ _ => ⟨rfl, e11, (by decide : 0 + 0 ≤ _), (by decide : 0 + 0 ≤ _)⟩)
  dsimp only [Pt.U, Pt.locs, Pt.cells, Pt.slots] at X12 l12 y12 z12 st12 hQ12
  subst l12 y12 z12
  obtain ⟨rfl, Nq12, Kq12, q13⟩ := hQ12
  have N12 := Fr.app N0 Nq12
  have K14 := K0.trans Kq12 (allS (Or.inl (List.mem_of_getElem? (i := 1) rfl)) all0)
  have O15 := O0.keep Kq12 (allS gm all0)
  refine Go.st st12 ?_
  show Go _ _ _ _ _ _ _ (T12.setTop (mkF m 15 _ []))
  refine Go.st (t' := T12.setTop (mkF m 17 #[.val (.ref a0_)] [(.int 0), (.ref a0_)])) (fun target kt => ?_) ?_
  · refine XS.aloadN X12.here hx rfl (hb hby d17_15) rfl rfl ?_
    refine XS.iconst X12.here hx rfl (hb hby d17_16) ?_
    exact kt
  have c16 := F_s.keep Kq12 (ninS nem nin0)
  have c17 := E0.keep Kq12
  obtain ⟨T18, h18, X18, e18, W18, st18⟩ := putF X12 hx hZ hown (host := "") (Or.inl (hw _ tw68)) Via.refl rfl c16 c17 (Or.inl (hw _ tw69)) (hw _ tw1) (ty := .int) (by decide) rfl rfl (g := (mkF m 17 #[.val (.ref a0_)] [(.int 0), (.ref a0_)])) rfl rfl (hb hby d17_17)
  have F19 : Fld Z h18 a0_ sq0 "size" "I" (.int 0) := c16.same W18
  have K20 := K14.wr W18 (Or.inl (List.mem_of_getElem? (i := 0) rfl))
  have O21 := O15.wr W18 g0
  have N18 := Fr.snoc X18 N12 g0
  refine Go.st st18 ?_
  show Go _ _ _ _ _ _ _ (T18.setTop (mkF m 20 _ []))
  refine Go.st (t' := T18.setTop (mkF m 22 #[.val (.ref a0_)] [(.ref a0_), (.ref a0_)])) (fun target kt => ?_) ?_
  · refine XS.aloadN X18.here hx rfl (hb hby d17_20) rfl rfl ?_
    refine XS.dup X18.here hx rfl (hb hby d17_21) rfl rfl ?_
    exact kt
  have c22 := (F_c.keep Kq12 (ninS nem nin0)).other W18 (Or.inr (slot_ne (Or.inl (hw _ tw104)) (Or.inl (hw _ tw69)) (by decide) (t := .int) (t' := .int) (by decide) (by decide)))
  obtain ⟨T23, X23, e23, st23⟩ := getF X18 hx hZ hown (host := "") (Or.inl (hw _ tw103)) Via.refl e18 c22 (g := (mkF m 22 #[.val (.ref a0_)] [(.ref a0_), (.ref a0_)])) rfl rfl (hb hby d17_22)
  refine Go.st st23 ?_
  show Go _ _ _ _ _ _ _ (T23.setTop (mkF m 25 _ [(.int pch), (.ref a0_)]))
  refine Go.st (t' := T23.setTop (mkF m 27 #[.val (.ref a0_)] [(.int (pch + (1 : Int32))), (.ref a0_)])) (fun target kt => ?_) ?_
  · refine XS.iconst X23.here hx rfl (hb hby d17_25) ?_
    refine XS.iadd X23.here hx rfl (hb hby d17_26) rfl ?_
    exact kt
  have c24 := c17.wr W18
  obtain ⟨T25, h25, X25, e25, W25, st25⟩ := putF X23 hx hZ hown (host := "") (Or.inl (hw _ tw103)) Via.refl e23 c22 c24 (Or.inl (hw _ tw104)) (hw _ tw1) (ty := .int) (by decide) rfl rfl (g := (mkF m 27 #[.val (.ref a0_)] [(.int (pch + (1 : Int32))), (.ref a0_)])) rfl rfl (hb hby d17_27)
  have F26 : Fld Z h25 a0_ sq0 "changes" "I" (.int (pch + (1 : Int32))) := c22.same W25
  have K27 := K20.wr W25 (Or.inl (List.mem_of_getElem? (i := 0) rfl))
  have O28 := O21.wr W25 g0
  have N25 := Fr.snoc X25 N18 g0
  refine Go.st st25 ?_
  show Go _ _ _ _ _ _ _ (T25.setTop (mkF m 30 _ []))
  refine Go.st (t' := T25.setTop (mkF m 32 #[.val (.ref a0_)] [.null, (.ref a0_)])) (fun target kt => ?_) ?_
  · refine XS.aloadN X25.here hx rfl (hb hby d17_30) rfl rfl ?_
    refine XS.aconstNull X25.here hx rfl (hb hby d17_31) ?_
    exact kt
  have c29 := ((F_i.keep Kq12 (ninS nem nin0)).other W18 (Or.inr (slot_ne (Or.inl (hw _ tw67)) (Or.inl (hw _ tw69)) (by decide) (t := (.array .int)) (t' := .int) (by decide) (by decide)))).other W25 (Or.inr (slot_ne (Or.inl (hw _ tw67)) (Or.inl (hw _ tw104)) (by decide) (t := (.array .int)) (t' := .int) (by decide) (by decide)))
  have c30 := c24.wr W25
  obtain ⟨T31, h31, X31, e31, W31, st31⟩ := putF X25 hx hZ hown (host := "") (Or.inl (hw _ tw66)) Via.refl e25 c29 c30 (Or.inl (hw _ tw67)) (hw _ tw1) (ty := (.array .int)) (by decide) rfl rfl (g := (mkF m 32 #[.val (.ref a0_)] [.null, (.ref a0_)])) rfl rfl (hb hby d17_32)
  have F32 : Fld Z h31 a0_ sq0 "index" "[I" .null := c29.same W31
  have K33 := K27.wr W31 (Or.inl (List.mem_of_getElem? (i := 0) rfl))
  have O34 := O28.wr W31 g0
  have N31 := Fr.snoc X31 N25 g0
  refine Go.st st31 ?_
  show Go _ _ _ _ _ _ _ (T31.setTop (mkF m 35 _ []))
  have c35 := c30.wr W31
  have c36 := (((F_m.keep Kq12 (ninS nem nin0)).other W18 (Or.inr (slot_ne (Or.inl (hw _ tw17)) (Or.inl (hw _ tw69)) (by decide) (t := (.array (.object sq1))) (t' := .int) (by decide) (by decide)))).other W25 (Or.inr (slot_ne (Or.inl (hw _ tw17)) (Or.inl (hw _ tw104)) (by decide) (t := (.array (.object sq1))) (t' := .int) (by decide) (by decide)))).other W31 (Or.inr (slot_ne (Or.inl (hw _ tw17)) (Or.inl (hw _ tw67)) (by decide) (t := (.array (.object sq1))) (t' := (.array .int)) (by decide) (by decide)))
  have c37 := (F19.other W25 (Or.inr (slot_ne (Or.inl (hw _ tw69)) (Or.inl (hw _ tw104)) (by decide) (t := .int) (t' := .int) (by decide) (by decide)))).other W31 (Or.inr (slot_ne (Or.inl (hw _ tw69)) (Or.inl (hw _ tw67)) (by decide) (t := .int) (t' := (.array .int)) (by decide) (by decide)))
  have c38 := F26.other W31 (Or.inr (slot_ne (Or.inl (hw _ tw104)) (Or.inl (hw _ tw67)) (by decide) (t := .int) (t' := (.array .int)) (by decide) (by decide)))
  have c39 := (((E_m.keep Kq12).wr W18).wr W25).wr W31
  have c40 := ((q13.other W18 (Ne.symm nem)).other W25 (Ne.symm nem)).other W31 (Ne.symm nem)
  refine Go.ret X31 (v := none) (fun _ => rfl) hlk (fun fs hr => X31.returnOut hx hret (hb hby d17_35) hr) ?_ (by decide) (by decide)
  show Q17_4_1 Z a0_ am km ev0 ev1 pch h0 n0 _ T31.heap _
  rw [e31]
  exact ⟨rfl, N31, K33, c35, c36, F32, c37, c38, c39, c40⟩
theorem ef19_4_2 (m : MethodId)  : entryFrame m #[(.int 4), (.int 0), (.int 4)] 3 = mkF m 0 #[.val (.int 4), .val (.int 0), .val (.int 4)] [] := by first | (simp [entryFrame, mkF, argsToLocals, Value.category]; done) | rfl
def Q19_4_2 (Z : State)  (h0 : Heap) (n0 : Nat) (v : Option Value) (h : Heap) (L : List Loc) : Prop := v = none ∧ Fr n0 L ∧ h = h0
theorem rm19_4_2 (l : Launch) (Z : State) (a0 : Array Value) (hw : ∀ d ∈ tables_1, d.before a0 Z = true) (ws : List Jvm.Cond)  (h0 : Heap) (n0 : Nat) (Z0 : n0 ≤ h0.size) (O0 : Old Z n0 h0) :
    Met l Z ws (⟨"java/util/Arrays", "rangeCheck", "(III)V"⟩ : MethodName) jdk_65_method_30_code 3 none (Rm 0 0 0 0) #[(.int 4), (.int 0), (.int 4)] h0 (Q19_4_2 Z  h0 n0) := by
  refine Met.enter (L0 := #[.val (.int 4), .val (.int 0), .val (.int 4)]) (plainFor_of_name pn191) (fun m => ef19_4_2 m ) ?_
  intro p e s m below meth c s₁ hx hby hml hown hnm hret hlk hZ X0 e0
  have N0 := Fr.nil n0
  have K0 : Keep h0 h0 [] := Keep.refl h0 _
  refine Go.st (t' := s₁.setTop (mkF m 73 #[.val (.int 4), .val (.int 0), .val (.int 4)] [])) (fun target kt => ?_) ?_
  · refine XS.iloadN X0.here hx rfl (hb hby d19_0) rfl ?_
    refine XS.iloadN X0.here hx rfl (hb hby d19_1) rfl ?_
    refine XS.icmpYes X0.here hx rfl (pc0 := 2) (pc' := 46) rfl (hb hby d19_2) rfl (flt (by decide : ¬ ((4 : Int32) < (0 : Int32)))).2.2.2 (by decide) (by decide) ?_
    refine XS.iloadN X0.here hx rfl (hb hby d19_46) rfl ?_
    refine XS.ifYes X0.here hx rfl (pc0 := 47) (pc' := 59) rfl (hb hby d19_47) rfl ((if0 _ _).trans (flt (by decide : ¬ ((0 : Int32) < (0 : Int32)))).2.1) (by decide) (by decide) ?_
    refine XS.iloadN X0.here hx rfl (hb hby d19_59) rfl ?_
    refine XS.iloadN X0.here hx rfl (hb hby d19_60) rfl ?_
    refine XS.icmpYes X0.here hx rfl (pc0 := 61) (pc' := 73) rfl (hb hby d19_61) rfl (flt (by decide : ¬ ((4 : Int32) < (4 : Int32)))).2.2.2 (by decide) (by decide) ?_
    exact kt
  refine Go.ret X0 (v := none) (fun _ => rfl) hlk (fun fs hr => X0.returnOut hx hret (hb hby d19_73) hr) ?_ (by decide) (by decide)
  show Q19_4_2 Z  h0 n0 _ s₁.heap _
  rw [e0]
  exact ⟨rfl, N0, rfl⟩
theorem ef18_4_2 (m : MethodId) (x0 : Addr) : entryFrame m #[(.ref x0), (.int 0), (.int 4), .null] 5 = mkF m 0 #[.val (.ref x0), .val (.int 0), .val (.int 4), .val .null, .unset] [] := by first | (simp [entryFrame, mkF, argsToLocals, Value.category]; done) | rfl
def Q18_4_2 (Z : State) (am : Addr) (km : ClassId) (ev0 : Value) (ev1 : Value) (ev2 : Value) (ev3 : Value) (h0 : Heap) (n0 : Nat) (v : Option Value) (h : Heap) (L : List Loc) : Prop := v = none ∧ Fr n0 L ∧ Keep h0 h [am] ∧ Arv Z h am km (.object sq1) (4 : Int32) [.null, .null, .null, .null] .null
theorem rm18_4_2 (l : Launch) (Z : State) (a0 : Array Value) (hw : ∀ d ∈ tables_1, d.before a0 Z = true) (ws : List Jvm.Cond) (am : Addr) (km : ClassId) (ev0 : Value) (ev1 : Value) (ev2 : Value) (ev3 : Value) (h0 : Heap) (n0 : Nat) (Z0 : n0 ≤ h0.size) (O0 : Old Z n0 h0) (V_m : Arv Z h0 am km (.object sq1) (4 : Int32) [ev0, ev1, ev2, ev3] .null) (gm : n0 ≤ am) :
    Met l Z ws (⟨"java/util/Arrays", "fill", "([Ljava/lang/Object;IILjava/lang/Object;)V"⟩ : MethodName) jdk_65_method_118_code 5 none (Rm 1 0 0 14) #[(.ref am), (.int 0), (.int 4), .null] h0 (Q18_4_2 Z am km ev0 ev1 ev2 ev3 h0 n0) := by
  refine Met.enter (L0 := #[.val (.ref am), .val (.int 0), .val (.int 4), .val .null, .unset]) (plainFor_of_name pn191) (fun m => ef18_4_2 m am) ?_
  intro p e s m below meth c s₁ hx hby hml hown hnm hret hlk hZ X0 e0
  have N0 := Fr.nil n0
  have K0 : Keep h0 h0 [am] := Keep.refl h0 _
  obtain ⟨cl10, Ar10, -, S10, M10, -, -⟩ := id V_m
  refine Go.st (t' := s₁.setTop (mkF m 4 #[.val (.ref am), .val (.int 0), .val (.int 4), .val .null, .unset] [(.int 4), (.int 0), (.int 4)])) (fun target kt => ?_) ?_
  · refine XS.aloadN X0.here hx rfl (hb hby d18_0) rfl rfl ?_
    refine X0.arraylength hx (by rw [e0]; exact Ar10.1) (State.isArrayOf_alike hZ.alike Ar10.2.1) (g := (mkF m 1 #[.val (.ref am), .val (.int 0), .val (.int 4), .val .null, .unset] [(.ref am)])) rfl rfl (hb hby d18_1) _ ?_
    rw [len_of S10 M10]
    refine XS.iloadN X0.here hx rfl (hb hby d18_2) rfl ?_
    refine XS.iloadN X0.here hx rfl (hb hby d18_3) rfl ?_
    exact kt
  obtain ⟨_, _, ⟨T11, L11, k11, n11⟩, -, X11, ⟨Lc11, hQ11, l11, y11, z11⟩, st11⟩ := Jvm.LawKit.callS X0 hx (y := (⟨"java/util/Arrays", "rangeCheck", "(III)V"⟩ : MethodName)) hown (mvT hZ (hw _ tw113)) (mvT hZ (hw _ tw114)) (mvT hZ (hw _ tw80)) (mvT hZ (hw _ tw115)) (by decide) (backOf (W := 0) (rm19_4_2 l Z a0 hw []  h0 n0 (Nat.le_trans Z0 K0.1) O0  ) hZ (hw _ tw115) (hw _ tw80) (by decide) (by decide)) (g := (mkF m 4 #[.val (.ref am), .val (.int 0), .val (.int 4), .val .null, .unset] [(.int 4), (.int 0), (.int 4)])) rfl (by rw [hml]; rfl) (argsL := [(.int 4), (.int 0), (.int 4)]) (rest := []) (lenOf pd12 rfl) rfl (by show 2 * 0 + _ ≤ _; exact Nat.le_of_eq rfl) (hb hby d18_4) (fun _ _ => ⟨rfl, e0, (by decide : 0 + 0 ≤ _), (by decide : 0 + 0 ≤ _)⟩)
  dsimp only [Pt.U, Pt.locs, Pt.cells, Pt.slots] at X11 l11 y11 z11 st11 hQ11
  subst l11 y11 z11
  obtain ⟨rfl, Nq11, eq11⟩ := hQ11
  have N11 := Fr.app N0 Nq11
  refine Go.st st11 ?_
  show Go _ _ _ _ _ _ _ (T11.setTop (mkF m 7 _ []))
  refine Go.st (t' := T11.setTop (mkF m 20 #[.val (.ref am), .val (.int 0), .val (.int 4), .val .null, .val (.int 0)] [.null, (.int 0), (.ref am)])) (fun target kt => ?_) ?_
  · refine XS.iloadN X11.here hx rfl (hb hby d18_7) rfl ?_
    refine XS.istore X11.here hx rfl (hb hby d18_8) rfl (l' := #[.val (.ref am), .val (.int 0), .val (.int 4), .val .null, .val (.int 0)]) rfl ?_
    refine XS.iload X11.here hx rfl (hb hby d18_10) rfl ?_
    refine XS.iloadN X11.here hx rfl (hb hby d18_12) rfl ?_
    refine XS.icmpNo X11.here hx rfl (hb hby d18_13) rfl (tlt (by decide : (0 : Int32) < (4 : Int32))).2.1 ?_
    refine XS.aloadN X11.here hx rfl (hb hby d18_16) rfl rfl ?_
    refine XS.iload X11.here hx rfl (hb hby d18_17) rfl ?_
    refine XS.aloadN X11.here hx rfl (hb hby d18_19) rfl rfl ?_
    exact kt
  obtain ⟨cl12, Ar12, q12, S12, M12, H12, G12⟩ := id V_m
  have hin12 : ¬ ((0 : Int32) < 0 ∨ cl12.slots.size ≤ ((0 : Int32)).toNatClampNeg) := inb_of S12 ⟨by decide, by decide⟩
  obtain ⟨T12, h12, X12, e12, W12, st12⟩ := stR X11 hx hZ eq11 Ar12 (j := (0 : Int32)) hin12 rfl (Or.inl rfl) (g := (mkF m 20 #[.val (.ref am), .val (.int 0), .val (.int 4), .val .null, .val (.int 0)] [.null, (.int 0), (.ref am)])) rfl rfl (hb hby d18_20)
  have V13 : Arv Z h12 am km (.object sq1) (4 : Int32) [.null, ev1, ev2, ev3] .null := Arv.set Ar12 q12 S12 M12 H12 G12 rfl W12 0 rfl (Nat.le_of_ble_eq_true rfl)
  have K14 := K0.wr W12 (Or.inl (List.mem_of_getElem? (i := 0) rfl))
  have O15 := O0.wr W12 gm
  have N12 := Fr.snoc X12 N11 gm
  refine Go.st st12 ?_
  show Go _ _ _ _ _ _ _ (T12.setTop (mkF m 21 _ []))
  refine Go.st (t' := T12.setTop (mkF m 20 #[.val (.ref am), .val (.int 0), .val (.int 4), .val .null, .val (.int 1)] [.null, (.int 1), (.ref am)])) (fun target kt => ?_) ?_
  · refine XS.iinc X12.here hx rfl (hb hby d18_21) rfl (l' := #[.val (.ref am), .val (.int 0), .val (.int 4), .val .null, .val (.int 1)]) rfl ?_
    refine XS.goto X12.here hx rfl (pc0 := 24) (pc' := 10) rfl (hb hby d18_24) (by decide) (by decide) ?_
    refine XS.iload X12.here hx rfl (hb hby d18_10) rfl ?_
    refine XS.iloadN X12.here hx rfl (hb hby d18_12) rfl ?_
    refine XS.icmpNo X12.here hx rfl (hb hby d18_13) rfl (tlt (by decide : (1 : Int32) < (4 : Int32))).2.1 ?_
    refine XS.aloadN X12.here hx rfl (hb hby d18_16) rfl rfl ?_
    refine XS.iload X12.here hx rfl (hb hby d18_17) rfl ?_
    refine XS.aloadN X12.here hx rfl (hb hby d18_19) rfl rfl ?_
    exact kt
  obtain ⟨cl16, Ar16, q16, S16, M16, H16, G16⟩ := id V13
  have hin16 : ¬ ((1 : Int32) < 0 ∨ cl16.slots.size ≤ ((1 : Int32)).toNatClampNeg) := inb_of S16 ⟨by decide, by decide⟩
  obtain ⟨T16, h16, X16, e16, W16, st16⟩ := stR X12 hx hZ e12 Ar16 (j := (1 : Int32)) hin16 rfl (Or.inl rfl) (g := (mkF m 20 #[.val (.ref am), .val (.int 0), .val (.int 4), .val .null, .val (.int 1)] [.null, (.int 1), (.ref am)])) rfl rfl (hb hby d18_20)
  have V17 : Arv Z h16 am km (.object sq1) (4 : Int32) [.null, .null, ev2, ev3] .null := Arv.set Ar16 q16 S16 M16 H16 G16 rfl W16 1 rfl (Nat.le_of_ble_eq_true rfl)
  have K18 := K14.wr W16 (Or.inl (List.mem_of_getElem? (i := 0) rfl))
  have O19 := O15.wr W16 gm
  have N16 := Fr.snoc X16 N12 gm
  refine Go.st st16 ?_
  show Go _ _ _ _ _ _ _ (T16.setTop (mkF m 21 _ []))
  refine Go.st (t' := T16.setTop (mkF m 20 #[.val (.ref am), .val (.int 0), .val (.int 4), .val .null, .val (.int 2)] [.null, (.int 2), (.ref am)])) (fun target kt => ?_) ?_
  · refine XS.iinc X16.here hx rfl (hb hby d18_21) rfl (l' := #[.val (.ref am), .val (.int 0), .val (.int 4), .val .null, .val (.int 2)]) rfl ?_
    refine XS.goto X16.here hx rfl (pc0 := 24) (pc' := 10) rfl (hb hby d18_24) (by decide) (by decide) ?_
    refine XS.iload X16.here hx rfl (hb hby d18_10) rfl ?_
    refine XS.iloadN X16.here hx rfl (hb hby d18_12) rfl ?_
    refine XS.icmpNo X16.here hx rfl (hb hby d18_13) rfl (tlt (by decide : (2 : Int32) < (4 : Int32))).2.1 ?_
    refine XS.aloadN X16.here hx rfl (hb hby d18_16) rfl rfl ?_
    refine XS.iload X16.here hx rfl (hb hby d18_17) rfl ?_
    refine XS.aloadN X16.here hx rfl (hb hby d18_19) rfl rfl ?_
    exact kt
  obtain ⟨cl20, Ar20, q20, S20, M20, H20, G20⟩ := id V17
  have hin20 : ¬ ((2 : Int32) < 0 ∨ cl20.slots.size ≤ ((2 : Int32)).toNatClampNeg) := inb_of S20 ⟨by decide, by decide⟩
  obtain ⟨T20, h20, X20, e20, W20, st20⟩ := stR X16 hx hZ e16 Ar20 (j := (2 : Int32)) hin20 rfl (Or.inl rfl) (g := (mkF m 20 #[.val (.ref am), .val (.int 0), .val (.int 4), .val .null, .val (.int 2)] [.null, (.int 2), (.ref am)])) rfl rfl (hb hby d18_20)
  have V21 : Arv Z h20 am km (.object sq1) (4 : Int32) [.null, .null, .null, ev3] .null := Arv.set Ar20 q20 S20 M20 H20 G20 rfl W20 2 rfl (Nat.le_of_ble_eq_true rfl)
  have K22 := K18.wr W20 (Or.inl (List.mem_of_getElem? (i := 0) rfl))
  have O23 := O19.wr W20 gm
  have N20 := Fr.snoc X20 N16 gm
  refine Go.st st20 ?_
  show Go _ _ _ _ _ _ _ (T20.setTop (mkF m 21 _ []))
  refine Go.st (t' := T20.setTop (mkF m 20 #[.val (.ref am), .val (.int 0), .val (.int 4), .val .null, .val (.int 3)] [.null, (.int 3), (.ref am)])) (fun target kt => ?_) ?_
  · refine XS.iinc X20.here hx rfl (hb hby d18_21) rfl (l' := #[.val (.ref am), .val (.int 0), .val (.int 4), .val .null, .val (.int 3)]) rfl ?_
    refine XS.goto X20.here hx rfl (pc0 := 24) (pc' := 10) rfl (hb hby d18_24) (by decide) (by decide) ?_
    refine XS.iload X20.here hx rfl (hb hby d18_10) rfl ?_
    refine XS.iloadN X20.here hx rfl (hb hby d18_12) rfl ?_
    refine XS.icmpNo X20.here hx rfl (hb hby d18_13) rfl (tlt (by decide : (3 : Int32) < (4 : Int32))).2.1 ?_
    refine XS.aloadN X20.here hx rfl (hb hby d18_16) rfl rfl ?_
    refine XS.iload X20.here hx rfl (hb hby d18_17) rfl ?_
    refine XS.aloadN X20.here hx rfl (hb hby d18_19) rfl rfl ?_
    exact kt
  obtain ⟨cl24, Ar24, q24, S24, M24, H24, G24⟩ := id V21
  have hin24 : ¬ ((3 : Int32) < 0 ∨ cl24.slots.size ≤ ((3 : Int32)).toNatClampNeg) := inb_of S24 ⟨by decide, by decide⟩
  obtain ⟨T24, h24, X24, e24, W24, st24⟩ := stR X20 hx hZ e20 Ar24 (j := (3 : Int32)) hin24 rfl (Or.inl rfl) (g := (mkF m 20 #[.val (.ref am), .val (.int 0), .val (.int 4), .val .null, .val (.int 3)] [.null, (.int 3), (.ref am)])) rfl rfl (hb hby d18_20)
  have V25 : Arv Z h24 am km (.object sq1) (4 : Int32) [.null, .null, .null, .null] .null := Arv.set Ar24 q24 S24 M24 H24 G24 rfl W24 3 rfl (Nat.le_of_ble_eq_true rfl)
  have K26 := K22.wr W24 (Or.inl (List.mem_of_getElem? (i := 0) rfl))
  have O27 := O23.wr W24 gm
  have N24 := Fr.snoc X24 N20 gm
  refine Go.st st24 ?_
  show Go _ _ _ _ _ _ _ (T24.setTop (mkF m 21 _ []))
  refine Go.st (t' := T24.setTop (mkF m 27 #[.val (.ref am), .val (.int 0), .val (.int 4), .val .null, .val (.int 4)] [])) (fun target kt => ?_) ?_
  · refine XS.iinc X24.here hx rfl (hb hby d18_21) rfl (l' := #[.val (.ref am), .val (.int 0), .val (.int 4), .val .null, .val (.int 4)]) rfl ?_
    refine XS.goto X24.here hx rfl (pc0 := 24) (pc' := 10) rfl (hb hby d18_24) (by decide) (by decide) ?_
    refine XS.iload X24.here hx rfl (hb hby d18_10) rfl ?_
    refine XS.iloadN X24.here hx rfl (hb hby d18_12) rfl ?_
    refine XS.icmpYes X24.here hx rfl (pc0 := 13) (pc' := 27) rfl (hb hby d18_13) rfl (flt (by decide : ¬ ((4 : Int32) < (4 : Int32)))).2.1 (by decide) (by decide) ?_
    exact kt
  refine Go.ret X24 (v := none) (fun _ => rfl) hlk (fun fs hr => X24.returnOut hx hret (hb hby d18_27) hr) ?_ (by decide) (by decide)
  show Q18_4_2 Z am km ev0 ev1 ev2 ev3 h0 n0 _ T24.heap _
  rw [e24]
  exact ⟨rfl, N24, K26, V25⟩
theorem ef17_4_2 (m : MethodId) (x0 : Addr) : entryFrame m #[(.ref x0)] 1 = mkF m 0 #[.val (.ref x0)] [] := by first | (simp [entryFrame, mkF, argsToLocals, Value.category]; done) | rfl
def Q17_4_2 (Z : State) (a0_ : Addr) (am : Addr) (km : ClassId) (ev0 : Value) (ev1 : Value) (ev2 : Value) (ev3 : Value) (pch : Int32) (h0 : Heap) (n0 : Nat) (v : Option Value) (h : Heap) (L : List Loc) : Prop := v = none ∧ Fr n0 L ∧ Keep h0 h [a0_, am] ∧ Exa Z h a0_ sq0 ∧ Fld Z h a0_ sq0 "members" sq3 (.ref am) ∧ Fld Z h a0_ sq0 "index" "[I" .null ∧ Fld Z h a0_ sq0 "size" "I" (.int 0) ∧ Fld Z h a0_ sq0 "changes" "I" (.int (pch + (1 : Int32))) ∧ Exa Z h am sq3 ∧ Arv Z h am km (.object sq1) (4 : Int32) [.null, .null, .null, .null] .null
theorem rm17_4_2 (l : Launch) (Z : State) (a0 : Array Value) (hw : ∀ d ∈ tables_1, d.before a0 Z = true) (ws : List Jvm.Cond) (a0_ : Addr) (am : Addr) (km : ClassId) (ev0 : Value) (ev1 : Value) (ev2 : Value) (ev3 : Value) (pch : Int32) (h0 : Heap) (n0 : Nat) (Z0 : n0 ≤ h0.size) (O0 : Old Z n0 h0) (E0 : Exa Z h0 a0_ sq0) (F_m : Fld Z h0 a0_ sq0 "members" sq3 (.ref am)) (F_i : Fld Z h0 a0_ sq0 "index" "[I" .null) (F_s : Fld Z h0 a0_ sq0 "size" "I" (.int 2)) (F_c : Fld Z h0 a0_ sq0 "changes" "I" (.int pch)) (E_m : Exa Z h0 am sq3) (V_m : Arv Z h0 am km (.object sq1) (4 : Int32) [ev0, ev1, ev2, ev3] .null) (g0 : n0 ≤ a0_) (gm : n0 ≤ am) (nem : a0_ ≠ am) :
    Met l Z ws (⟨sq0, "clear", "()V"⟩ : MethodName) prog_14_method_7_code 1 none (Rm 2 0 0 30) #[(.ref a0_)] h0 (Q17_4_2 Z a0_ am km ev0 ev1 ev2 ev3 pch h0 n0) := by
  refine Met.enter (L0 := #[.val (.ref a0_)]) (plainFor_of_name pn10) (fun m => ef17_4_2 m a0_) ?_
  intro p e s m below meth c s₁ hx hby hml hown hnm hret hlk hZ X0 e0
  have N0 := Fr.nil n0
  have K0 : Keep h0 h0 [a0_, am] := Keep.refl h0 _
  refine Go.st (t' := s₁.setTop (mkF m 1 #[.val (.ref a0_)] [(.ref a0_)])) (fun target kt => ?_) ?_
  · refine XS.aloadN X0.here hx rfl (hb hby d17_0) rfl rfl ?_
    exact kt
  obtain ⟨T10, X10, e10, st10⟩ := getF X0 hx hZ hown (host := "") (Or.inl (hw _ tw16)) Via.refl e0 F_m (g := (mkF m 1 #[.val (.ref a0_)] [(.ref a0_)])) rfl rfl (hb hby d17_1)
  refine Go.st st10 ?_
  show Go _ _ _ _ _ _ _ (T10.setTop (mkF m 4 _ [(.ref am)]))
  refine Go.st (t' := T10.setTop (mkF m 7 #[.val (.ref a0_)] [(.ref a0_), (.int 2), (.int 0), (.ref am)])) (fun target kt => ?_) ?_
  · refine XS.iconst X10.here hx rfl (hb hby d17_4) ?_
    refine XS.iconst X10.here hx rfl (hb hby d17_5) ?_
    refine XS.aloadN X10.here hx rfl (hb hby d17_6) rfl rfl ?_
    exact kt
  obtain ⟨T11, X11, e11, st11⟩ := getF X10 hx hZ hown (host := "") (Or.inl (hw _ tw68)) Via.refl e10 F_s (g := (mkF m 7 #[.val (.ref a0_)] [(.ref a0_), (.int 2), (.int 0), (.ref am)])) rfl rfl (hb hby d17_7)
  refine Go.st st11 ?_
  show Go _ _ _ _ _ _ _ (T11.setTop (mkF m 10 _ [(.int 2), (.int 2), (.int 0), (.ref am)]))
  refine Go.st (t' := T11.setTop (mkF m 12 #[.val (.ref a0_)] [.null, (.int 4), (.int 0), (.ref am)])) (fun target kt => ?_) ?_
  · refine XS.imul X11.here hx rfl (hb hby d17_10) rfl ?_
    refine XS.aconstNull X11.here hx rfl (hb hby d17_11) ?_
    exact kt
  obtain ⟨_, _, ⟨T12, L12, k12, n12⟩, -, X12, ⟨Lc12, hQ12, l12, y12, z12⟩, st12⟩ := Jvm.LawKit.callS X11 hx (y := (⟨"java/util/Arrays", "fill", "([Ljava/lang/Object;IILjava/lang/Object;)V"⟩ : MethodName)) hown (mvT hZ (hw _ tw110)) (mvT hZ (hw _ tw111)) (mvT hZ (hw _ tw80)) (mvT hZ (hw _ tw112)) (by decide) (backOf (W := 0) (rm18_4_2 l Z a0 hw [] am km ev0 ev1 ev2 ev3 h0 n0 (Nat.le_trans Z0 K0.1) O0  V_m gm) hZ (hw _ tw112) (hw _ tw80) (by decide) (by decide)) (g := (mkF m 12 #[.val (.ref a0_)] [.null, (.int 4), (.int 0), (.ref am)])) rfl (by rw [hml]; rfl) (argsL := [(.ref am), (.int 0), (.int 4), .null]) (rest := []) (lenOf pd13 rfl) rfl (by show 2 * 0 + _ ≤ _; exact Nat.le_of_eq rfl) (hb hby d17_12) (fun _ _ => ⟨rfl, e11, (by decide : 0 + 0 ≤ _), (by decide : 0 + 0 ≤ _)⟩)
  dsimp only [Pt.U, Pt.locs, Pt.cells, Pt.slots] at X12 l12 y12 z12 st12 hQ12
  subst l12 y12 z12
  obtain ⟨rfl, Nq12, Kq12, q13⟩ := hQ12
  have N12 := Fr.app N0 Nq12
  have K14 := K0.trans Kq12 (allS (Or.inl (List.mem_of_getElem? (i := 1) rfl)) all0)
  have O15 := O0.keep Kq12 (allS gm all0)
  refine Go.st st12 ?_
  show Go _ _ _ _ _ _ _ (T12.setTop (mkF m 15 _ []))
  refine Go.st (t' := T12.setTop (mkF m 17 #[.val (.ref a0_)] [(.int 0), (.ref a0_)])) (fun target kt => ?_) ?_
  · refine XS.aloadN X12.here hx rfl (hb hby d17_15) rfl rfl ?_
    refine XS.iconst X12.here hx rfl (hb hby d17_16) ?_
    exact kt
  have c16 := F_s.keep Kq12 (ninS nem nin0)
  have c17 := E0.keep Kq12
  obtain ⟨T18, h18, X18, e18, W18, st18⟩ := putF X12 hx hZ hown (host := "") (Or.inl (hw _ tw68)) Via.refl rfl c16 c17 (Or.inl (hw _ tw69)) (hw _ tw1) (ty := .int) (by decide) rfl rfl (g := (mkF m 17 #[.val (.ref a0_)] [(.int 0), (.ref a0_)])) rfl rfl (hb hby d17_17)
  have F19 : Fld Z h18 a0_ sq0 "size" "I" (.int 0) := c16.same W18
  have K20 := K14.wr W18 (Or.inl (List.mem_of_getElem? (i := 0) rfl))
  have O21 := O15.wr W18 g0
  have N18 := Fr.snoc X18 N12 g0
  refine Go.st st18 ?_
  show Go _ _ _ _ _ _ _ (T18.setTop (mkF m 20 _ []))
  refine Go.st (t' := T18.setTop (mkF m 22 #[.val (.ref a0_)] [(.ref a0_), (.ref a0_)])) (fun target kt => ?_) ?_
  · refine XS.aloadN X18.here hx rfl (hb hby d17_20) rfl rfl ?_
    refine XS.dup X18.here hx rfl (hb hby d17_21) rfl rfl ?_
    exact kt
  have c22 := (F_c.keep Kq12 (ninS nem nin0)).other W18 (Or.inr (slot_ne (Or.inl (hw _ tw104)) (Or.inl (hw _ tw69)) (by decide) (t := .int) (t' := .int) (by decide) (by decide)))
  obtain ⟨T23, X23, e23, st23⟩ := getF X18 hx hZ hown (host := "") (Or.inl (hw _ tw103)) Via.refl e18 c22 (g := (mkF m 22 #[.val (.ref a0_)] [(.ref a0_), (.ref a0_)])) rfl rfl (hb hby d17_22)
  refine Go.st st23 ?_
  show Go _ _ _ _ _ _ _ (T23.setTop (mkF m 25 _ [(.int pch), (.ref a0_)]))
  refine Go.st (t' := T23.setTop (mkF m 27 #[.val (.ref a0_)] [(.int (pch + (1 : Int32))), (.ref a0_)])) (fun target kt => ?_) ?_
  · refine XS.iconst X23.here hx rfl (hb hby d17_25) ?_
    refine XS.iadd X23.here hx rfl (hb hby d17_26) rfl ?_
    exact kt
  have c24 := c17.wr W18
  obtain ⟨T25, h25, X25, e25, W25, st25⟩ := putF X23 hx hZ hown (host := "") (Or.inl (hw _ tw103)) Via.refl e23 c22 c24 (Or.inl (hw _ tw104)) (hw _ tw1) (ty := .int) (by decide) rfl rfl (g := (mkF m 27 #[.val (.ref a0_)] [(.int (pch + (1 : Int32))), (.ref a0_)])) rfl rfl (hb hby d17_27)
  have F26 : Fld Z h25 a0_ sq0 "changes" "I" (.int (pch + (1 : Int32))) := c22.same W25
  have K27 := K20.wr W25 (Or.inl (List.mem_of_getElem? (i := 0) rfl))
  have O28 := O21.wr W25 g0
  have N25 := Fr.snoc X25 N18 g0
  refine Go.st st25 ?_
  show Go _ _ _ _ _ _ _ (T25.setTop (mkF m 30 _ []))
  refine Go.st (t' := T25.setTop (mkF m 32 #[.val (.ref a0_)] [.null, (.ref a0_)])) (fun target kt => ?_) ?_
  · refine XS.aloadN X25.here hx rfl (hb hby d17_30) rfl rfl ?_
    refine XS.aconstNull X25.here hx rfl (hb hby d17_31) ?_
    exact kt
  have c29 := ((F_i.keep Kq12 (ninS nem nin0)).other W18 (Or.inr (slot_ne (Or.inl (hw _ tw67)) (Or.inl (hw _ tw69)) (by decide) (t := (.array .int)) (t' := .int) (by decide) (by decide)))).other W25 (Or.inr (slot_ne (Or.inl (hw _ tw67)) (Or.inl (hw _ tw104)) (by decide) (t := (.array .int)) (t' := .int) (by decide) (by decide)))
  have c30 := c24.wr W25
  obtain ⟨T31, h31, X31, e31, W31, st31⟩ := putF X25 hx hZ hown (host := "") (Or.inl (hw _ tw66)) Via.refl e25 c29 c30 (Or.inl (hw _ tw67)) (hw _ tw1) (ty := (.array .int)) (by decide) rfl rfl (g := (mkF m 32 #[.val (.ref a0_)] [.null, (.ref a0_)])) rfl rfl (hb hby d17_32)
  have F32 : Fld Z h31 a0_ sq0 "index" "[I" .null := c29.same W31
  have K33 := K27.wr W31 (Or.inl (List.mem_of_getElem? (i := 0) rfl))
  have O34 := O28.wr W31 g0
  have N31 := Fr.snoc X31 N25 g0
  refine Go.st st31 ?_
  show Go _ _ _ _ _ _ _ (T31.setTop (mkF m 35 _ []))
  have c35 := c30.wr W31
  have c36 := (((F_m.keep Kq12 (ninS nem nin0)).other W18 (Or.inr (slot_ne (Or.inl (hw _ tw17)) (Or.inl (hw _ tw69)) (by decide) (t := (.array (.object sq1))) (t' := .int) (by decide) (by decide)))).other W25 (Or.inr (slot_ne (Or.inl (hw _ tw17)) (Or.inl (hw _ tw104)) (by decide) (t := (.array (.object sq1))) (t' := .int) (by decide) (by decide)))).other W31 (Or.inr (slot_ne (Or.inl (hw _ tw17)) (Or.inl (hw _ tw67)) (by decide) (t := (.array (.object sq1))) (t' := (.array .int)) (by decide) (by decide)))
  have c37 := (F19.other W25 (Or.inr (slot_ne (Or.inl (hw _ tw69)) (Or.inl (hw _ tw104)) (by decide) (t := .int) (t' := .int) (by decide) (by decide)))).other W31 (Or.inr (slot_ne (Or.inl (hw _ tw69)) (Or.inl (hw _ tw67)) (by decide) (t := .int) (t' := (.array .int)) (by decide) (by decide)))
  have c38 := F26.other W31 (Or.inr (slot_ne (Or.inl (hw _ tw104)) (Or.inl (hw _ tw67)) (by decide) (t := .int) (t' := (.array .int)) (by decide) (by decide)))
  have c39 := (((E_m.keep Kq12).wr W18).wr W25).wr W31
  have c40 := ((q13.other W18 (Ne.symm nem)).other W25 (Ne.symm nem)).other W31 (Ne.symm nem)
  refine Go.ret X31 (v := none) (fun _ => rfl) hlk (fun fs hr => X31.returnOut hx hret (hb hby d17_35) hr) ?_ (by decide) (by decide)
  show Q17_4_2 Z a0_ am km ev0 ev1 ev2 ev3 pch h0 n0 _ T31.heap _
  rw [e31]
  exact ⟨rfl, N31, K33, c35, c36, F32, c37, c38, c39, c40⟩
theorem ef19_6_3 (m : MethodId)  : entryFrame m #[(.int 6), (.int 0), (.int 6)] 3 = mkF m 0 #[.val (.int 6), .val (.int 0), .val (.int 6)] [] := by first | (simp [entryFrame, mkF, argsToLocals, Value.category]; done) | rfl
def Q19_6_3 (Z : State)  (h0 : Heap) (n0 : Nat) (v : Option Value) (h : Heap) (L : List Loc) : Prop := v = none ∧ Fr n0 L ∧ h = h0
theorem rm19_6_3 (l : Launch) (Z : State) (a0 : Array Value) (hw : ∀ d ∈ tables_1, d.before a0 Z = true) (ws : List Jvm.Cond)  (h0 : Heap) (n0 : Nat) (Z0 : n0 ≤ h0.size) (O0 : Old Z n0 h0) :
    Met l Z ws (⟨"java/util/Arrays", "rangeCheck", "(III)V"⟩ : MethodName) jdk_65_method_30_code 3 none (Rm 0 0 0 0) #[(.int 6), (.int 0), (.int 6)] h0 (Q19_6_3 Z  h0 n0) := by
  refine Met.enter (L0 := #[.val (.int 6), .val (.int 0), .val (.int 6)]) (plainFor_of_name pn191) (fun m => ef19_6_3 m ) ?_
  intro p e s m below meth c s₁ hx hby hml hown hnm hret hlk hZ X0 e0
  have N0 := Fr.nil n0
  have K0 : Keep h0 h0 [] := Keep.refl h0 _
  refine Go.st (t' := s₁.setTop (mkF m 73 #[.val (.int 6), .val (.int 0), .val (.int 6)] [])) (fun target kt => ?_) ?_
  · refine XS.iloadN X0.here hx rfl (hb hby d19_0) rfl ?_
    refine XS.iloadN X0.here hx rfl (hb hby d19_1) rfl ?_
    refine XS.icmpYes X0.here hx rfl (pc0 := 2) (pc' := 46) rfl (hb hby d19_2) rfl (flt (by decide : ¬ ((6 : Int32) < (0 : Int32)))).2.2.2 (by decide) (by decide) ?_
    refine XS.iloadN X0.here hx rfl (hb hby d19_46) rfl ?_
    refine XS.ifYes X0.here hx rfl (pc0 := 47) (pc' := 59) rfl (hb hby d19_47) rfl ((if0 _ _).trans (flt (by decide : ¬ ((0 : Int32) < (0 : Int32)))).2.1) (by decide) (by decide) ?_
    refine XS.iloadN X0.here hx rfl (hb hby d19_59) rfl ?_
    refine XS.iloadN X0.here hx rfl (hb hby d19_60) rfl ?_
    refine XS.icmpYes X0.here hx rfl (pc0 := 61) (pc' := 73) rfl (hb hby d19_61) rfl (flt (by decide : ¬ ((6 : Int32) < (6 : Int32)))).2.2.2 (by decide) (by decide) ?_
    exact kt
  refine Go.ret X0 (v := none) (fun _ => rfl) hlk (fun fs hr => X0.returnOut hx hret (hb hby d19_73) hr) ?_ (by decide) (by decide)
  show Q19_6_3 Z  h0 n0 _ s₁.heap _
  rw [e0]
  exact ⟨rfl, N0, rfl⟩
theorem ef18_6_3 (m : MethodId) (x0 : Addr) : entryFrame m #[(.ref x0), (.int 0), (.int 6), .null] 5 = mkF m 0 #[.val (.ref x0), .val (.int 0), .val (.int 6), .val .null, .unset] [] := by first | (simp [entryFrame, mkF, argsToLocals, Value.category]; done) | rfl
def Q18_6_3 (Z : State) (am : Addr) (km : ClassId) (ev0 : Value) (ev1 : Value) (ev2 : Value) (ev3 : Value) (ev4 : Value) (ev5 : Value) (h0 : Heap) (n0 : Nat) (v : Option Value) (h : Heap) (L : List Loc) : Prop := v = none ∧ Fr n0 L ∧ Keep h0 h [am] ∧ Arv Z h am km (.object sq1) (6 : Int32) [.null, .null, .null, .null, .null, .null] .null
theorem rm18_6_3 (l : Launch) (Z : State) (a0 : Array Value) (hw : ∀ d ∈ tables_1, d.before a0 Z = true) (ws : List Jvm.Cond) (am : Addr) (km : ClassId) (ev0 : Value) (ev1 : Value) (ev2 : Value) (ev3 : Value) (ev4 : Value) (ev5 : Value) (h0 : Heap) (n0 : Nat) (Z0 : n0 ≤ h0.size) (O0 : Old Z n0 h0) (V_m : Arv Z h0 am km (.object sq1) (6 : Int32) [ev0, ev1, ev2, ev3, ev4, ev5] .null) (gm : n0 ≤ am) :
    Met l Z ws (⟨"java/util/Arrays", "fill", "([Ljava/lang/Object;IILjava/lang/Object;)V"⟩ : MethodName) jdk_65_method_118_code 5 none (Rm 1 0 0 14) #[(.ref am), (.int 0), (.int 6), .null] h0 (Q18_6_3 Z am km ev0 ev1 ev2 ev3 ev4 ev5 h0 n0) := by
  refine Met.enter (L0 := #[.val (.ref am), .val (.int 0), .val (.int 6), .val .null, .unset]) (plainFor_of_name pn191) (fun m => ef18_6_3 m am) ?_
  intro p e s m below meth c s₁ hx hby hml hown hnm hret hlk hZ X0 e0
  have N0 := Fr.nil n0
  have K0 : Keep h0 h0 [am] := Keep.refl h0 _
  obtain ⟨cl10, Ar10, -, S10, M10, -, -⟩ := id V_m
  refine Go.st (t' := s₁.setTop (mkF m 4 #[.val (.ref am), .val (.int 0), .val (.int 6), .val .null, .unset] [(.int 6), (.int 0), (.int 6)])) (fun target kt => ?_) ?_
  · refine XS.aloadN X0.here hx rfl (hb hby d18_0) rfl rfl ?_
    refine X0.arraylength hx (by rw [e0]; exact Ar10.1) (State.isArrayOf_alike hZ.alike Ar10.2.1) (g := (mkF m 1 #[.val (.ref am), .val (.int 0), .val (.int 6), .val .null, .unset] [(.ref am)])) rfl rfl (hb hby d18_1) _ ?_
    rw [len_of S10 M10]
    refine XS.iloadN X0.here hx rfl (hb hby d18_2) rfl ?_
    refine XS.iloadN X0.here hx rfl (hb hby d18_3) rfl ?_
    exact kt
  obtain ⟨_, _, ⟨T11, L11, k11, n11⟩, -, X11, ⟨Lc11, hQ11, l11, y11, z11⟩, st11⟩ := Jvm.LawKit.callS X0 hx (y := (⟨"java/util/Arrays", "rangeCheck", "(III)V"⟩ : MethodName)) hown (mvT hZ (hw _ tw113)) (mvT hZ (hw _ tw114)) (mvT hZ (hw _ tw80)) (mvT hZ (hw _ tw115)) (by decide) (backOf (W := 0) (rm19_6_3 l Z a0 hw []  h0 n0 (Nat.le_trans Z0 K0.1) O0  ) hZ (hw _ tw115) (hw _ tw80) (by decide) (by decide)) (g := (mkF m 4 #[.val (.ref am), .val (.int 0), .val (.int 6), .val .null, .unset] [(.int 6), (.int 0), (.int 6)])) rfl (by rw [hml]; rfl) (argsL := [(.int 6), (.int 0), (.int 6)]) (rest := []) (lenOf pd12 rfl) rfl (by show 2 * 0 + _ ≤ _; exact Nat.le_of_eq rfl) (hb hby d18_4) (fun _ _ => ⟨rfl, e0, (by decide : 0 + 0 ≤ _), (by decide : 0 + 0 ≤ _)⟩)
  dsimp only [Pt.U, Pt.locs, Pt.cells, Pt.slots] at X11 l11 y11 z11 st11 hQ11
  subst l11 y11 z11
  obtain ⟨rfl, Nq11, eq11⟩ := hQ11
  have N11 := Fr.app N0 Nq11
  refine Go.st st11 ?_
  show Go _ _ _ _ _ _ _ (T11.setTop (mkF m 7 _ []))
  refine Go.st (t' := T11.setTop (mkF m 20 #[.val (.ref am), .val (.int 0), .val (.int 6), .val .null, .val (.int 0)] [.null, (.int 0), (.ref am)])) (fun target kt => ?_) ?_
  · refine XS.iloadN X11.here hx rfl (hb hby d18_7) rfl ?_
    refine XS.istore X11.here hx rfl (hb hby d18_8) rfl (l' := #[.val (.ref am), .val (.int 0), .val (.int 6), .val .null, .val (.int 0)]) rfl ?_
    refine XS.iload X11.here hx rfl (hb hby d18_10) rfl ?_
    refine XS.iloadN X11.here hx rfl (hb hby d18_12) rfl ?_
    refine XS.icmpNo X11.here hx rfl (hb hby d18_13) rfl (tlt (by decide : (0 : Int32) < (6 : Int32))).2.1 ?_
    refine XS.aloadN X11.here hx rfl (hb hby d18_16) rfl rfl ?_
    refine XS.iload X11.here hx rfl (hb hby d18_17) rfl ?_
    refine XS.aloadN X11.here hx rfl (hb hby d18_19) rfl rfl ?_
    exact kt
  obtain ⟨cl12, Ar12, q12, S12, M12, H12, G12⟩ := id V_m
  have hin12 : ¬ ((0 : Int32) < 0 ∨ cl12.slots.size ≤ ((0 : Int32)).toNatClampNeg) := inb_of S12 ⟨by decide, by decide⟩
  obtain ⟨T12, h12, X12, e12, W12, st12⟩ := stR X11 hx hZ eq11 Ar12 (j := (0 : Int32)) hin12 rfl (Or.inl rfl) (g := (mkF m 20 #[.val (.ref am), .val (.int 0), .val (.int 6), .val .null, .val (.int 0)] [.null, (.int 0), (.ref am)])) rfl rfl (hb hby d18_20)
  have V13 : Arv Z h12 am km (.object sq1) (6 : Int32) [.null, ev1, ev2, ev3, ev4, ev5] .null := Arv.set Ar12 q12 S12 M12 H12 G12 rfl W12 0 rfl (Nat.le_of_ble_eq_true rfl)
  have K14 := K0.wr W12 (Or.inl (List.mem_of_getElem? (i := 0) rfl))
  have O15 := O0.wr W12 gm
  have N12 := Fr.snoc X12 N11 gm
  refine Go.st st12 ?_
  show Go _ _ _ _ _ _ _ (T12.setTop (mkF m 21 _ []))
  refine Go.st (t' := T12.setTop (mkF m 20 #[.val (.ref am), .val (.int 0), .val (.int 6), .val .null, .val (.int 1)] [.null, (.int 1), (.ref am)])) (fun target kt => ?_) ?_
  · refine XS.iinc X12.here hx rfl (hb hby d18_21) rfl (l' := #[.val (.ref am), .val (.int 0), .val (.int 6), .val .null, .val (.int 1)]) rfl ?_
    refine XS.goto X12.here hx rfl (pc0 := 24) (pc' := 10) rfl (hb hby d18_24) (by decide) (by decide) ?_
    refine XS.iload X12.here hx rfl (hb hby d18_10) rfl ?_
    refine XS.iloadN X12.here hx rfl (hb hby d18_12) rfl ?_
    refine XS.icmpNo X12.here hx rfl (hb hby d18_13) rfl (tlt (by decide : (1 : Int32) < (6 : Int32))).2.1 ?_
    refine XS.aloadN X12.here hx rfl (hb hby d18_16) rfl rfl ?_
    refine XS.iload X12.here hx rfl (hb hby d18_17) rfl ?_
    refine XS.aloadN X12.here hx rfl (hb hby d18_19) rfl rfl ?_
    exact kt
  obtain ⟨cl16, Ar16, q16, S16, M16, H16, G16⟩ := id V13
  have hin16 : ¬ ((1 : Int32) < 0 ∨ cl16.slots.size ≤ ((1 : Int32)).toNatClampNeg) := inb_of S16 ⟨by decide, by decide⟩
  obtain ⟨T16, h16, X16, e16, W16, st16⟩ := stR X12 hx hZ e12 Ar16 (j := (1 : Int32)) hin16 rfl (Or.inl rfl) (g := (mkF m 20 #[.val (.ref am), .val (.int 0), .val (.int 6), .val .null, .val (.int 1)] [.null, (.int 1), (.ref am)])) rfl rfl (hb hby d18_20)
  have V17 : Arv Z h16 am km (.object sq1) (6 : Int32) [.null, .null, ev2, ev3, ev4, ev5] .null := Arv.set Ar16 q16 S16 M16 H16 G16 rfl W16 1 rfl (Nat.le_of_ble_eq_true rfl)
  have K18 := K14.wr W16 (Or.inl (List.mem_of_getElem? (i := 0) rfl))
  have O19 := O15.wr W16 gm
  have N16 := Fr.snoc X16 N12 gm
  refine Go.st st16 ?_
  show Go _ _ _ _ _ _ _ (T16.setTop (mkF m 21 _ []))
  refine Go.st (t' := T16.setTop (mkF m 20 #[.val (.ref am), .val (.int 0), .val (.int 6), .val .null, .val (.int 2)] [.null, (.int 2), (.ref am)])) (fun target kt => ?_) ?_
  · refine XS.iinc X16.here hx rfl (hb hby d18_21) rfl (l' := #[.val (.ref am), .val (.int 0), .val (.int 6), .val .null, .val (.int 2)]) rfl ?_
    refine XS.goto X16.here hx rfl (pc0 := 24) (pc' := 10) rfl (hb hby d18_24) (by decide) (by decide) ?_
    refine XS.iload X16.here hx rfl (hb hby d18_10) rfl ?_
    refine XS.iloadN X16.here hx rfl (hb hby d18_12) rfl ?_
    refine XS.icmpNo X16.here hx rfl (hb hby d18_13) rfl (tlt (by decide : (2 : Int32) < (6 : Int32))).2.1 ?_
    refine XS.aloadN X16.here hx rfl (hb hby d18_16) rfl rfl ?_
    refine XS.iload X16.here hx rfl (hb hby d18_17) rfl ?_
    refine XS.aloadN X16.here hx rfl (hb hby d18_19) rfl rfl ?_
    exact kt
  obtain ⟨cl20, Ar20, q20, S20, M20, H20, G20⟩ := id V17
  have hin20 : ¬ ((2 : Int32) < 0 ∨ cl20.slots.size ≤ ((2 : Int32)).toNatClampNeg) := inb_of S20 ⟨by decide, by decide⟩
  obtain ⟨T20, h20, X20, e20, W20, st20⟩ := stR X16 hx hZ e16 Ar20 (j := (2 : Int32)) hin20 rfl (Or.inl rfl) (g := (mkF m 20 #[.val (.ref am), .val (.int 0), .val (.int 6), .val .null, .val (.int 2)] [.null, (.int 2), (.ref am)])) rfl rfl (hb hby d18_20)
  have V21 : Arv Z h20 am km (.object sq1) (6 : Int32) [.null, .null, .null, ev3, ev4, ev5] .null := Arv.set Ar20 q20 S20 M20 H20 G20 rfl W20 2 rfl (Nat.le_of_ble_eq_true rfl)
  have K22 := K18.wr W20 (Or.inl (List.mem_of_getElem? (i := 0) rfl))
  have O23 := O19.wr W20 gm
  have N20 := Fr.snoc X20 N16 gm
  refine Go.st st20 ?_
  show Go _ _ _ _ _ _ _ (T20.setTop (mkF m 21 _ []))
  refine Go.st (t' := T20.setTop (mkF m 20 #[.val (.ref am), .val (.int 0), .val (.int 6), .val .null, .val (.int 3)] [.null, (.int 3), (.ref am)])) (fun target kt => ?_) ?_
  · refine XS.iinc X20.here hx rfl (hb hby d18_21) rfl (l' := #[.val (.ref am), .val (.int 0), .val (.int 6), .val .null, .val (.int 3)]) rfl ?_
    refine XS.goto X20.here hx rfl (pc0 := 24) (pc' := 10) rfl (hb hby d18_24) (by decide) (by decide) ?_
    refine XS.iload X20.here hx rfl (hb hby d18_10) rfl ?_
    refine XS.iloadN X20.here hx rfl (hb hby d18_12) rfl ?_
    refine XS.icmpNo X20.here hx rfl (hb hby d18_13) rfl (tlt (by decide : (3 : Int32) < (6 : Int32))).2.1 ?_
    refine XS.aloadN X20.here hx rfl (hb hby d18_16) rfl rfl ?_
    refine XS.iload X20.here hx rfl (hb hby d18_17) rfl ?_
    refine XS.aloadN X20.here hx rfl (hb hby d18_19) rfl rfl ?_
    exact kt
  obtain ⟨cl24, Ar24, q24, S24, M24, H24, G24⟩ := id V21
  have hin24 : ¬ ((3 : Int32) < 0 ∨ cl24.slots.size ≤ ((3 : Int32)).toNatClampNeg) := inb_of S24 ⟨by decide, by decide⟩
  obtain ⟨T24, h24, X24, e24, W24, st24⟩ := stR X20 hx hZ e20 Ar24 (j := (3 : Int32)) hin24 rfl (Or.inl rfl) (g := (mkF m 20 #[.val (.ref am), .val (.int 0), .val (.int 6), .val .null, .val (.int 3)] [.null, (.int 3), (.ref am)])) rfl rfl (hb hby d18_20)
  have V25 : Arv Z h24 am km (.object sq1) (6 : Int32) [.null, .null, .null, .null, ev4, ev5] .null := Arv.set Ar24 q24 S24 M24 H24 G24 rfl W24 3 rfl (Nat.le_of_ble_eq_true rfl)
  have K26 := K22.wr W24 (Or.inl (List.mem_of_getElem? (i := 0) rfl))
  have O27 := O23.wr W24 gm
  have N24 := Fr.snoc X24 N20 gm
  refine Go.st st24 ?_
  show Go _ _ _ _ _ _ _ (T24.setTop (mkF m 21 _ []))
  refine Go.st (t' := T24.setTop (mkF m 20 #[.val (.ref am), .val (.int 0), .val (.int 6), .val .null, .val (.int 4)] [.null, (.int 4), (.ref am)])) (fun target kt => ?_) ?_
  · refine XS.iinc X24.here hx rfl (hb hby d18_21) rfl (l' := #[.val (.ref am), .val (.int 0), .val (.int 6), .val .null, .val (.int 4)]) rfl ?_
    refine XS.goto X24.here hx rfl (pc0 := 24) (pc' := 10) rfl (hb hby d18_24) (by decide) (by decide) ?_
    refine XS.iload X24.here hx rfl (hb hby d18_10) rfl ?_
    refine XS.iloadN X24.here hx rfl (hb hby d18_12) rfl ?_
    refine XS.icmpNo X24.here hx rfl (hb hby d18_13) rfl (tlt (by decide : (4 : Int32) < (6 : Int32))).2.1 ?_
    refine XS.aloadN X24.here hx rfl (hb hby d18_16) rfl rfl ?_
    refine XS.iload X24.here hx rfl (hb hby d18_17) rfl ?_
    refine XS.aloadN X24.here hx rfl (hb hby d18_19) rfl rfl ?_
    exact kt
  obtain ⟨cl28, Ar28, q28, S28, M28, H28, G28⟩ := id V25
  have hin28 : ¬ ((4 : Int32) < 0 ∨ cl28.slots.size ≤ ((4 : Int32)).toNatClampNeg) := inb_of S28 ⟨by decide, by decide⟩
  obtain ⟨T28, h28, X28, e28, W28, st28⟩ := stR X24 hx hZ e24 Ar28 (j := (4 : Int32)) hin28 rfl (Or.inl rfl) (g := (mkF m 20 #[.val (.ref am), .val (.int 0), .val (.int 6), .val .null, .val (.int 4)] [.null, (.int 4), (.ref am)])) rfl rfl (hb hby d18_20)
  have V29 : Arv Z h28 am km (.object sq1) (6 : Int32) [.null, .null, .null, .null, .null, ev5] .null := Arv.set Ar28 q28 S28 M28 H28 G28 rfl W28 4 rfl (Nat.le_of_ble_eq_true rfl)
  have K30 := K26.wr W28 (Or.inl (List.mem_of_getElem? (i := 0) rfl))
  have O31 := O27.wr W28 gm
  have N28 := Fr.snoc X28 N24 gm
  refine Go.st st28 ?_
  show Go _ _ _ _ _ _ _ (T28.setTop (mkF m 21 _ []))
  refine Go.st (t' := T28.setTop (mkF m 20 #[.val (.ref am), .val (.int 0), .val (.int 6), .val .null, .val (.int 5)] [.null, (.int 5), (.ref am)])) (fun target kt => ?_) ?_
  · refine XS.iinc X28.here hx rfl (hb hby d18_21) rfl (l' := #[.val (.ref am), .val (.int 0), .val (.int 6), .val .null, .val (.int 5)]) rfl ?_
    refine XS.goto X28.here hx rfl (pc0 := 24) (pc' := 10) rfl (hb hby d18_24) (by decide) (by decide) ?_
    refine XS.iload X28.here hx rfl (hb hby d18_10) rfl ?_
    refine XS.iloadN X28.here hx rfl (hb hby d18_12) rfl ?_
    refine XS.icmpNo X28.here hx rfl (hb hby d18_13) rfl (tlt (by decide : (5 : Int32) < (6 : Int32))).2.1 ?_
    refine XS.aloadN X28.here hx rfl (hb hby d18_16) rfl rfl ?_
    refine XS.iload X28.here hx rfl (hb hby d18_17) rfl ?_
    refine XS.aloadN X28.here hx rfl (hb hby d18_19) rfl rfl ?_
    exact kt
  obtain ⟨cl32, Ar32, q32, S32, M32, H32, G32⟩ := id V29
  have hin32 : ¬ ((5 : Int32) < 0 ∨ cl32.slots.size ≤ ((5 : Int32)).toNatClampNeg) := inb_of S32 ⟨by decide, by decide⟩
  obtain ⟨T32, h32, X32, e32, W32, st32⟩ := stR X28 hx hZ e28 Ar32 (j := (5 : Int32)) hin32 rfl (Or.inl rfl) (g := (mkF m 20 #[.val (.ref am), .val (.int 0), .val (.int 6), .val .null, .val (.int 5)] [.null, (.int 5), (.ref am)])) rfl rfl (hb hby d18_20)
  have V33 : Arv Z h32 am km (.object sq1) (6 : Int32) [.null, .null, .null, .null, .null, .null] .null := Arv.set Ar32 q32 S32 M32 H32 G32 rfl W32 5 rfl (Nat.le_of_ble_eq_true rfl)
  have K34 := K30.wr W32 (Or.inl (List.mem_of_getElem? (i := 0) rfl))
  have O35 := O31.wr W32 gm
  have N32 := Fr.snoc X32 N28 gm
  refine Go.st st32 ?_
  show Go _ _ _ _ _ _ _ (T32.setTop (mkF m 21 _ []))
  refine Go.st (t' := T32.setTop (mkF m 27 #[.val (.ref am), .val (.int 0), .val (.int 6), .val .null, .val (.int 6)] [])) (fun target kt => ?_) ?_
  · refine XS.iinc X32.here hx rfl (hb hby d18_21) rfl (l' := #[.val (.ref am), .val (.int 0), .val (.int 6), .val .null, .val (.int 6)]) rfl ?_
    refine XS.goto X32.here hx rfl (pc0 := 24) (pc' := 10) rfl (hb hby d18_24) (by decide) (by decide) ?_
    refine XS.iload X32.here hx rfl (hb hby d18_10) rfl ?_
    refine XS.iloadN X32.here hx rfl (hb hby d18_12) rfl ?_
    refine XS.icmpYes X32.here hx rfl (pc0 := 13) (pc' := 27) rfl (hb hby d18_13) rfl (flt (by decide : ¬ ((6 : Int32) < (6 : Int32)))).2.1 (by decide) (by decide) ?_
    exact kt
  refine Go.ret X32 (v := none) (fun _ => rfl) hlk (fun fs hr => X32.returnOut hx hret (hb hby d18_27) hr) ?_ (by decide) (by decide)
  show Q18_6_3 Z am km ev0 ev1 ev2 ev3 ev4 ev5 h0 n0 _ T32.heap _
  rw [e32]
  exact ⟨rfl, N32, K34, V33⟩
theorem ef17_6_3 (m : MethodId) (x0 : Addr) : entryFrame m #[(.ref x0)] 1 = mkF m 0 #[.val (.ref x0)] [] := by first | (simp [entryFrame, mkF, argsToLocals, Value.category]; done) | rfl
def Q17_6_3 (Z : State) (a0_ : Addr) (am : Addr) (km : ClassId) (ev0 : Value) (ev1 : Value) (ev2 : Value) (ev3 : Value) (ev4 : Value) (ev5 : Value) (pch : Int32) (h0 : Heap) (n0 : Nat) (v : Option Value) (h : Heap) (L : List Loc) : Prop := v = none ∧ Fr n0 L ∧ Keep h0 h [a0_, am] ∧ Exa Z h a0_ sq0 ∧ Fld Z h a0_ sq0 "members" sq3 (.ref am) ∧ Fld Z h a0_ sq0 "index" "[I" .null ∧ Fld Z h a0_ sq0 "size" "I" (.int 0) ∧ Fld Z h a0_ sq0 "changes" "I" (.int (pch + (1 : Int32))) ∧ Exa Z h am sq3 ∧ Arv Z h am km (.object sq1) (6 : Int32) [.null, .null, .null, .null, .null, .null] .null
theorem rm17_6_3 (l : Launch) (Z : State) (a0 : Array Value) (hw : ∀ d ∈ tables_1, d.before a0 Z = true) (ws : List Jvm.Cond) (a0_ : Addr) (am : Addr) (km : ClassId) (ev0 : Value) (ev1 : Value) (ev2 : Value) (ev3 : Value) (ev4 : Value) (ev5 : Value) (pch : Int32) (h0 : Heap) (n0 : Nat) (Z0 : n0 ≤ h0.size) (O0 : Old Z n0 h0) (E0 : Exa Z h0 a0_ sq0) (F_m : Fld Z h0 a0_ sq0 "members" sq3 (.ref am)) (F_i : Fld Z h0 a0_ sq0 "index" "[I" .null) (F_s : Fld Z h0 a0_ sq0 "size" "I" (.int 3)) (F_c : Fld Z h0 a0_ sq0 "changes" "I" (.int pch)) (E_m : Exa Z h0 am sq3) (V_m : Arv Z h0 am km (.object sq1) (6 : Int32) [ev0, ev1, ev2, ev3, ev4, ev5] .null) (g0 : n0 ≤ a0_) (gm : n0 ≤ am) (nem : a0_ ≠ am) :
    Met l Z ws (⟨sq0, "clear", "()V"⟩ : MethodName) prog_14_method_7_code 1 none (Rm 2 0 0 30) #[(.ref a0_)] h0 (Q17_6_3 Z a0_ am km ev0 ev1 ev2 ev3 ev4 ev5 pch h0 n0) := by
  refine Met.enter (L0 := #[.val (.ref a0_)]) (plainFor_of_name pn10) (fun m => ef17_6_3 m a0_) ?_
  intro p e s m below meth c s₁ hx hby hml hown hnm hret hlk hZ X0 e0
  have N0 := Fr.nil n0
  have K0 : Keep h0 h0 [a0_, am] := Keep.refl h0 _
  refine Go.st (t' := s₁.setTop (mkF m 1 #[.val (.ref a0_)] [(.ref a0_)])) (fun target kt => ?_) ?_
  · refine XS.aloadN X0.here hx rfl (hb hby d17_0) rfl rfl ?_
    exact kt
  obtain ⟨T10, X10, e10, st10⟩ := getF X0 hx hZ hown (host := "") (Or.inl (hw _ tw16)) Via.refl e0 F_m (g := (mkF m 1 #[.val (.ref a0_)] [(.ref a0_)])) rfl rfl (hb hby d17_1)
  refine Go.st st10 ?_
  show Go _ _ _ _ _ _ _ (T10.setTop (mkF m 4 _ [(.ref am)]))
  refine Go.st (t' := T10.setTop (mkF m 7 #[.val (.ref a0_)] [(.ref a0_), (.int 2), (.int 0), (.ref am)])) (fun target kt => ?_) ?_
  · refine XS.iconst X10.here hx rfl (hb hby d17_4) ?_
    refine XS.iconst X10.here hx rfl (hb hby d17_5) ?_
    refine XS.aloadN X10.here hx rfl (hb hby d17_6) rfl rfl ?_
    exact kt
  obtain ⟨T11, X11, e11, st11⟩ := getF X10 hx hZ hown (host := "") (Or.inl (hw _ tw68)) Via.refl e10 F_s (g := (mkF m 7 #[.val (.ref a0_)] [(.ref a0_), (.int 2), (.int 0), (.ref am)])) rfl rfl (hb hby d17_7)
  refine Go.st st11 ?_
  show Go _ _ _ _ _ _ _ (T11.setTop (mkF m 10 _ [(.int 3), (.int 2), (.int 0), (.ref am)]))
  refine Go.st (t' := T11.setTop (mkF m 12 #[.val (.ref a0_)] [.null, (.int 6), (.int 0), (.ref am)])) (fun target kt => ?_) ?_
  · refine XS.imul X11.here hx rfl (hb hby d17_10) rfl ?_
    refine XS.aconstNull X11.here hx rfl (hb hby d17_11) ?_
    exact kt
  obtain ⟨_, _, ⟨T12, L12, k12, n12⟩, -, X12, ⟨Lc12, hQ12, l12, y12, z12⟩, st12⟩ := Jvm.LawKit.callS X11 hx (y := (⟨"java/util/Arrays", "fill", "([Ljava/lang/Object;IILjava/lang/Object;)V"⟩ : MethodName)) hown (mvT hZ (hw _ tw110)) (mvT hZ (hw _ tw111)) (mvT hZ (hw _ tw80)) (mvT hZ (hw _ tw112)) (by decide) (backOf (W := 0) (rm18_6_3 l Z a0 hw [] am km ev0 ev1 ev2 ev3 ev4 ev5 h0 n0 (Nat.le_trans Z0 K0.1) O0  V_m gm) hZ (hw _ tw112) (hw _ tw80) (by decide) (by decide)) (g := (mkF m 12 #[.val (.ref a0_)] [.null, (.int 6), (.int 0), (.ref am)])) rfl (by rw [hml]; rfl) (argsL := [(.ref am), (.int 0), (.int 6), .null]) (rest := []) (lenOf pd13 rfl) rfl (by show 2 * 0 + _ ≤ _; exact Nat.le_of_eq rfl) (hb hby d17_12) (fun _ _ => ⟨rfl, e11, (by decide : 0 + 0 ≤ _), (by decide : 0 + 0 ≤ _)⟩)
  dsimp only [Pt.U, Pt.locs, Pt.cells, Pt.slots] at X12 l12 y12 z12 st12 hQ12
  subst l12 y12 z12
  obtain ⟨rfl, Nq12, Kq12, q13⟩ := hQ12
  have N12 := Fr.app N0 Nq12
  have K14 := K0.trans Kq12 (allS (Or.inl (List.mem_of_getElem? (i := 1) rfl)) all0)
  have O15 := O0.keep Kq12 (allS gm all0)
  refine Go.st st12 ?_
  show Go _ _ _ _ _ _ _ (T12.setTop (mkF m 15 _ []))
  refine Go.st (t' := T12.setTop (mkF m 17 #[.val (.ref a0_)] [(.int 0), (.ref a0_)])) (fun target kt => ?_) ?_
  · refine XS.aloadN X12.here hx rfl (hb hby d17_15) rfl rfl ?_
    refine XS.iconst X12.here hx rfl (hb hby d17_16) ?_
    exact kt
  have c16 := F_s.keep Kq12 (ninS nem nin0)
  have c17 := E0.keep Kq12
  obtain ⟨T18, h18, X18, e18, W18, st18⟩ := putF X12 hx hZ hown (host := "") (Or.inl (hw _ tw68)) Via.refl rfl c16 c17 (Or.inl (hw _ tw69)) (hw _ tw1) (ty := .int) (by decide) rfl rfl (g := (mkF m 17 #[.val (.ref a0_)] [(.int 0), (.ref a0_)])) rfl rfl (hb hby d17_17)
  have F19 : Fld Z h18 a0_ sq0 "size" "I" (.int 0) := c16.same W18
  have K20 := K14.wr W18 (Or.inl (List.mem_of_getElem? (i := 0) rfl))
  have O21 := O15.wr W18 g0
  have N18 := Fr.snoc X18 N12 g0
  refine Go.st st18 ?_
  show Go _ _ _ _ _ _ _ (T18.setTop (mkF m 20 _ []))
  refine Go.st (t' := T18.setTop (mkF m 22 #[.val (.ref a0_)] [(.ref a0_), (.ref a0_)])) (fun target kt => ?_) ?_
  · refine XS.aloadN X18.here hx rfl (hb hby d17_20) rfl rfl ?_
    refine XS.dup X18.here hx rfl (hb hby d17_21) rfl rfl ?_
    exact kt
  have c22 := (F_c.keep Kq12 (ninS nem nin0)).other W18 (Or.inr (slot_ne (Or.inl (hw _ tw104)) (Or.inl (hw _ tw69)) (by decide) (t := .int) (t' := .int) (by decide) (by decide)))
  obtain ⟨T23, X23, e23, st23⟩ := getF X18 hx hZ hown (host := "") (Or.inl (hw _ tw103)) Via.refl e18 c22 (g := (mkF m 22 #[.val (.ref a0_)] [(.ref a0_), (.ref a0_)])) rfl rfl (hb hby d17_22)
  refine Go.st st23 ?_
  show Go _ _ _ _ _ _ _ (T23.setTop (mkF m 25 _ [(.int pch), (.ref a0_)]))
  refine Go.st (t' := T23.setTop (mkF m 27 #[.val (.ref a0_)] [(.int (pch + (1 : Int32))), (.ref a0_)])) (fun target kt => ?_) ?_
  · refine XS.iconst X23.here hx rfl (hb hby d17_25) ?_
    refine XS.iadd X23.here hx rfl (hb hby d17_26) rfl ?_
    exact kt
  have c24 := c17.wr W18
  obtain ⟨T25, h25, X25, e25, W25, st25⟩ := putF X23 hx hZ hown (host := "") (Or.inl (hw _ tw103)) Via.refl e23 c22 c24 (Or.inl (hw _ tw104)) (hw _ tw1) (ty := .int) (by decide) rfl rfl (g := (mkF m 27 #[.val (.ref a0_)] [(.int (pch + (1 : Int32))), (.ref a0_)])) rfl rfl (hb hby d17_27)
  have F26 : Fld Z h25 a0_ sq0 "changes" "I" (.int (pch + (1 : Int32))) := c22.same W25
  have K27 := K20.wr W25 (Or.inl (List.mem_of_getElem? (i := 0) rfl))
  have O28 := O21.wr W25 g0
  have N25 := Fr.snoc X25 N18 g0
  refine Go.st st25 ?_
  show Go _ _ _ _ _ _ _ (T25.setTop (mkF m 30 _ []))
  refine Go.st (t' := T25.setTop (mkF m 32 #[.val (.ref a0_)] [.null, (.ref a0_)])) (fun target kt => ?_) ?_
  · refine XS.aloadN X25.here hx rfl (hb hby d17_30) rfl rfl ?_
    refine XS.aconstNull X25.here hx rfl (hb hby d17_31) ?_
    exact kt
  have c29 := ((F_i.keep Kq12 (ninS nem nin0)).other W18 (Or.inr (slot_ne (Or.inl (hw _ tw67)) (Or.inl (hw _ tw69)) (by decide) (t := (.array .int)) (t' := .int) (by decide) (by decide)))).other W25 (Or.inr (slot_ne (Or.inl (hw _ tw67)) (Or.inl (hw _ tw104)) (by decide) (t := (.array .int)) (t' := .int) (by decide) (by decide)))
  have c30 := c24.wr W25
  obtain ⟨T31, h31, X31, e31, W31, st31⟩ := putF X25 hx hZ hown (host := "") (Or.inl (hw _ tw66)) Via.refl e25 c29 c30 (Or.inl (hw _ tw67)) (hw _ tw1) (ty := (.array .int)) (by decide) rfl rfl (g := (mkF m 32 #[.val (.ref a0_)] [.null, (.ref a0_)])) rfl rfl (hb hby d17_32)
  have F32 : Fld Z h31 a0_ sq0 "index" "[I" .null := c29.same W31
  have K33 := K27.wr W31 (Or.inl (List.mem_of_getElem? (i := 0) rfl))
  have O34 := O28.wr W31 g0
  have N31 := Fr.snoc X31 N25 g0
  refine Go.st st31 ?_
  show Go _ _ _ _ _ _ _ (T31.setTop (mkF m 35 _ []))
  have c35 := c30.wr W31
  have c36 := (((F_m.keep Kq12 (ninS nem nin0)).other W18 (Or.inr (slot_ne (Or.inl (hw _ tw17)) (Or.inl (hw _ tw69)) (by decide) (t := (.array (.object sq1))) (t' := .int) (by decide) (by decide)))).other W25 (Or.inr (slot_ne (Or.inl (hw _ tw17)) (Or.inl (hw _ tw104)) (by decide) (t := (.array (.object sq1))) (t' := .int) (by decide) (by decide)))).other W31 (Or.inr (slot_ne (Or.inl (hw _ tw17)) (Or.inl (hw _ tw67)) (by decide) (t := (.array (.object sq1))) (t' := (.array .int)) (by decide) (by decide)))
  have c37 := (F19.other W25 (Or.inr (slot_ne (Or.inl (hw _ tw69)) (Or.inl (hw _ tw104)) (by decide) (t := .int) (t' := .int) (by decide) (by decide)))).other W31 (Or.inr (slot_ne (Or.inl (hw _ tw69)) (Or.inl (hw _ tw67)) (by decide) (t := .int) (t' := (.array .int)) (by decide) (by decide)))
  have c38 := F26.other W31 (Or.inr (slot_ne (Or.inl (hw _ tw104)) (Or.inl (hw _ tw67)) (by decide) (t := .int) (t' := (.array .int)) (by decide) (by decide)))
  have c39 := (((E_m.keep Kq12).wr W18).wr W25).wr W31
  have c40 := ((q13.other W18 (Ne.symm nem)).other W25 (Ne.symm nem)).other W31 (Ne.symm nem)
  refine Go.ret X31 (v := none) (fun _ => rfl) hlk (fun fs hr => X31.returnOut hx hret (hb hby d17_35) hr) ?_ (by decide) (by decide)
  show Q17_6_3 Z a0_ am km ev0 ev1 ev2 ev3 ev4 ev5 pch h0 n0 _ T31.heap _
  rw [e31]
  exact ⟨rfl, N31, K33, c35, c36, F32, c37, c38, c39, c40⟩
theorem d20_0 : decode prog_14_method_2_code 0 = .ok (.aload_n 0, 1) := by decide +kernel
theorem d20_1 : decode prog_14_method_2_code 1 = .ok (.getfield 16, 3) := by decide +kernel
theorem d20_4 : decode prog_14_method_2_code 4 = .ok (.ireturn, 1) := by decide +kernel
theorem ef20 (m : MethodId) (x0 : Addr) : entryFrame m #[(.ref x0)] 1 = mkF m 0 #[.val (.ref x0)] [] := by first | (simp [entryFrame, mkF, argsToLocals, Value.category]; done) | rfl
def Q20 (Z : State) (a0_ : Addr) (psz : Int32) (h0 : Heap) (n0 : Nat) (v : Option Value) (h : Heap) (L : List Loc) : Prop := v = some (.int psz) ∧ Fr n0 L ∧ h = h0
theorem rm20 (l : Launch) (Z : State) (a0 : Array Value) (hw : ∀ d ∈ tables_1, d.before a0 Z = true) (ws : List Jvm.Cond) (a0_ : Addr) (psz : Int32) (h0 : Heap) (n0 : Nat) (Z0 : n0 ≤ h0.size) (O0 : Old Z n0 h0) (F_s : Fld Z h0 a0_ sq0 "size" "I" (.int psz)) :
    Met l Z ws (⟨sq0, "size", "()I"⟩ : MethodName) prog_14_method_2_code 1 (some .int) (Rm 0 0 0 0) #[(.ref a0_)] h0 (Q20 Z a0_ psz h0 n0) := by
  refine Met.enter (L0 := #[.val (.ref a0_)]) (plainFor_of_name pn10) (fun m => ef20 m a0_) ?_
  intro p e s m below meth c s₁ hx hby hml hown hnm hret hlk hZ X0 e0
  have N0 := Fr.nil n0
  have K0 : Keep h0 h0 [] := Keep.refl h0 _
  refine Go.st (t' := s₁.setTop (mkF m 1 #[.val (.ref a0_)] [(.ref a0_)])) (fun target kt => ?_) ?_
  · refine XS.aloadN X0.here hx rfl (hb hby d20_0) rfl rfl ?_
    exact kt
  obtain ⟨T10, X10, e10, st10⟩ := getF X0 hx hZ hown (host := "") (Or.inl (hw _ tw68)) Via.refl e0 F_s (g := (mkF m 1 #[.val (.ref a0_)] [(.ref a0_)])) rfl rfl (hb hby d20_1)
  refine Go.st st10 ?_
  show Go _ _ _ _ _ _ _ (T10.setTop (mkF m 4 _ [(.int psz)]))
  refine Go.ret X10 (v := some (.int psz)) (fun h => by rw [hret] at h; cases h) hlk (fun fs hr => retI X10 hx hret (hb hby d20_4) hr) ?_ (by decide) (by decide)
  show Q20 Z a0_ psz h0 n0 _ T10.heap _
  rw [e10]
  exact ⟨rfl, N0, rfl⟩
theorem d21_0 : decode prog_14_method_3_code 0 = .ok (.aload_n 0, 1) := by decide +kernel
theorem d21_1 : decode prog_14_method_3_code 1 = .ok (.aload_n 1, 1) := by decide +kernel
theorem d21_2 : decode prog_14_method_3_code 2 = .ok (.invokevirtual 20, 3) := by decide +kernel
theorem d21_5 : decode prog_14_method_3_code 5 = .ok (.ifCond .lt 7, 3) := by decide +kernel
theorem d21_12 : decode prog_14_method_3_code 12 = .ok (.iconst 0, 1) := by decide +kernel
theorem d21_13 : decode prog_14_method_3_code 13 = .ok (.ireturn, 1) := by decide +kernel
theorem ef21_0 (m : MethodId) (x0 : Addr) (x1 : Addr) : entryFrame m #[(.ref x0), (.ref x1)] 2 = mkF m 0 #[.val (.ref x0), .val (.ref x1)] [] := by first | (simp [entryFrame, mkF, argsToLocals, Value.category]; done) | rfl
def Q21_0 (Z : State) (a0_ : Addr) (a1_ : Addr) (pch : Int32) (wcs : Int32) (wn : Addr) (kn : ClassId) (h0 : Heap) (n0 : Nat) (v : Option Value) (h : Heap) (L : List Loc) : Prop := v = some (.int 0) ∧ Fr n0 L ∧ h = h0
theorem rm21_0 (l : Launch) (Z : State) (a0 : Array Value) (hw : ∀ d ∈ tables_1, d.before a0 Z = true) (ws : List Jvm.Cond) (a0_ : Addr) (a1_ : Addr) (pch : Int32) (wcs : Int32) (wn : Addr) (kn : ClassId) (h0 : Heap) (n0 : Nat) (Z0 : n0 ≤ h0.size) (O0 : Old Z n0 h0) (S_CS : Sta Z Z.heap sq2 "COMPACT_STRINGS" "Z" (.int wcs)) (hcs : ¬ (wcs = (0 : Int32))) (S_NM : Sta Z Z.heap sq0 "NO_MEMBERS" sq3 (.ref wn)) (E_wn : Exa Z Z.heap wn sq3) (V_wn : Arv Z Z.heap wn kn (.object sq1) (0 : Int32) [] .null) (E0 : Exa Z h0 a0_ sq0) (F_m : Fld Z h0 a0_ sq0 "members" sq3 (.ref wn)) (F_i : Fld Z h0 a0_ sq0 "index" "[I" .null) (F_s : Fld Z h0 a0_ sq0 "size" "I" (.int 0)) (F_c : Fld Z h0 a0_ sq0 "changes" "I" (.int pch)) (E_a1 : Exa Z h0 a1_ sq2) :
    Met l Z ws (⟨sq0, "containsKey", "(Ljava/lang/Object;)Z"⟩ : MethodName) prog_14_method_3_code 2 (some .boolean) (Rm 1 0 0 16) #[(.ref a0_), (.ref a1_)] h0 (Q21_0 Z a0_ a1_ pch wcs wn kn h0 n0) := by
  refine Met.enter (L0 := #[.val (.ref a0_), .val (.ref a1_)]) (plainFor_of_name pn10) (fun m => ef21_0 m a0_ a1_) ?_
  intro p e s m below meth c s₁ hx hby hml hown hnm hret hlk hZ X0 e0
  have N0 := Fr.nil n0
  have K0 : Keep h0 h0 [] := Keep.refl h0 _
  refine Go.st (t' := s₁.setTop (mkF m 2 #[.val (.ref a0_), .val (.ref a1_)] [(.ref a1_), (.ref a0_)])) (fun target kt => ?_) ?_
  · refine XS.aloadN X0.here hx rfl (hb hby d21_0) rfl rfl ?_
    refine XS.aloadN X0.here hx rfl (hb hby d21_1) rfl rfl ?_
    exact kt
  obtain ⟨cq10, q10, q10'⟩ := E0.cell
  obtain ⟨_, _, ⟨T10, L10, k10, n10⟩, -, X10, ⟨Lc10, hQ10, l10, y10, z10⟩, st10⟩ := X0.privateBack hx (y := (⟨sq0, "find", "(Ljava/lang/Object;)I"⟩ : MethodName)) hown (mvT hZ (hw _ tw61)) (mvT hZ (hw _ tw62)) (mvT hZ (own_selp (y := (⟨sq0, "find", "(Ljava/lang/Object;)I"⟩ : MethodName)) (hw _ tw1) (hw _ tw63) (hw _ tw62) (by decide))) (Cond.privateMethod_at (mvP hZ (hw _ tw63) (args := #[]))) (mvT hZ (hw _ tw64)) (by decide) (backOf (W := 0) (rm11_none_0_0 l Z a0 hw [] a0_ a1_ pch wcs wn kn h0 n0 (Nat.le_trans Z0 K0.1) O0 S_CS hcs S_NM E_wn V_wn E0 F_m F_i F_s F_c E_a1) hZ (hw _ tw64) (hw _ tw2) (by decide) (by decide)) (g := (mkF m 2 #[.val (.ref a0_), .val (.ref a1_)] [(.ref a1_), (.ref a0_)])) rfl (by rw [hml]; rfl) (Steps.refl _) (a := a0_) (by rw [e0]; exact q10) q10' (argsL := [(.ref a1_)]) (rest := []) (lenOf pd11 rfl) rfl (by show 2 * 0 + _ ≤ _; exact Nat.le_of_eq rfl) (hb hby d21_2) (fun _ _ => ⟨rfl, e0, (by decide : 0 + 0 ≤ _), (by decide : 0 + 0 ≤ _)⟩)
  dsimp only [Pt.U, Pt.locs, Pt.cells, Pt.slots] at X10 l10 y10 z10 st10 hQ10
  subst l10 y10 z10
  obtain ⟨rfl, Nq10, eq10⟩ := hQ10
  have N10 := Fr.app N0 Nq10
  refine Go.by st10 ?_
  show Go _ _ _ _ _ _ _ (T10.setTop (mkF m 5 _ [(.int (-1))]))
  refine Go.st (t' := T10.setTop (mkF m 13 #[.val (.ref a0_), .val (.ref a1_)] [(.int 0)])) (fun target kt => ?_) ?_
  · refine XS.ifYes X10.here hx rfl (pc0 := 5) (pc' := 12) rfl (hb hby d21_5) rfl ((if0 _ _).trans (tlt (by decide : (-1 : Int32) < (0 : Int32))).1) (by decide) (by decide) ?_
    refine XS.iconst X10.here hx rfl (hb hby d21_12) ?_
    exact kt
  refine Go.ret X10 (v := some (.int 0)) (fun h => by rw [hret] at h; cases h) hlk (fun fs hr => retN X10 hx (t := .boolean) hret (by simp) (hb hby d21_13) hr) ?_ (by decide) (by decide)
  show Q21_0 Z a0_ a1_ pch wcs wn kn h0 n0 _ T10.heap _
  rw [eq10]
  exact ⟨rfl, N10, rfl⟩
theorem d22_0 : decode prog_14_method_4_code 0 = .ok (.aload_n 0, 1) := by decide +kernel
theorem d22_1 : decode prog_14_method_4_code 1 = .ok (.aload_n 1, 1) := by decide +kernel
theorem d22_2 : decode prog_14_method_4_code 2 = .ok (.invokevirtual 20, 3) := by decide +kernel
theorem d22_5 : decode prog_14_method_4_code 5 = .ok (.istore_n 2, 1) := by decide +kernel
theorem d22_6 : decode prog_14_method_4_code 6 = .ok (.iload_n 2, 1) := by decide +kernel
theorem d22_7 : decode prog_14_method_4_code 7 = .ok (.ifCond .ge 7, 3) := by decide +kernel
theorem d22_10 : decode prog_14_method_4_code 10 = .ok (.aconst_null, 1) := by decide +kernel
theorem d22_11 : decode prog_14_method_4_code 11 = .ok (.goto 13, 3) := by decide +kernel
theorem d22_24 : decode prog_14_method_4_code 24 = .ok (.areturn, 1) := by decide +kernel
theorem ef22_none_0 (m : MethodId) (x0 : Addr) (x1 : Addr) : entryFrame m #[(.ref x0), (.ref x1)] 3 = mkF m 0 #[.val (.ref x0), .val (.ref x1), .unset] [] := by first | (simp [entryFrame, mkF, argsToLocals, Value.category]; done) | rfl
def Q22_none_0 (Z : State) (a0_ : Addr) (a1_ : Addr) (pch : Int32) (wcs : Int32) (wn : Addr) (kn : ClassId) (h0 : Heap) (n0 : Nat) (v : Option Value) (h : Heap) (L : List Loc) : Prop := v = some .null ∧ Fr n0 L ∧ h = h0
theorem rm22_none_0 (l : Launch) (Z : State) (a0 : Array Value) (hw : ∀ d ∈ tables_1, d.before a0 Z = true) (ws : List Jvm.Cond) (a0_ : Addr) (a1_ : Addr) (pch : Int32) (wcs : Int32) (wn : Addr) (kn : ClassId) (h0 : Heap) (n0 : Nat) (Z0 : n0 ≤ h0.size) (O0 : Old Z n0 h0) (S_CS : Sta Z Z.heap sq2 "COMPACT_STRINGS" "Z" (.int wcs)) (hcs : ¬ (wcs = (0 : Int32))) (S_NM : Sta Z Z.heap sq0 "NO_MEMBERS" sq3 (.ref wn)) (E_wn : Exa Z Z.heap wn sq3) (V_wn : Arv Z Z.heap wn kn (.object sq1) (0 : Int32) [] .null) (E0 : Exa Z h0 a0_ sq0) (F_m : Fld Z h0 a0_ sq0 "members" sq3 (.ref wn)) (F_i : Fld Z h0 a0_ sq0 "index" "[I" .null) (F_s : Fld Z h0 a0_ sq0 "size" "I" (.int 0)) (F_c : Fld Z h0 a0_ sq0 "changes" "I" (.int pch)) (E_a1 : Exa Z h0 a1_ sq2) :
    Met l Z ws (⟨sq0, "get", "(Ljava/lang/Object;)Ljava/lang/Object;"⟩ : MethodName) prog_14_method_4_code 3 (some (.object sq1)) (Rm 1 0 0 16) #[(.ref a0_), (.ref a1_)] h0 (Q22_none_0 Z a0_ a1_ pch wcs wn kn h0 n0) := by
  refine Met.enter (L0 := #[.val (.ref a0_), .val (.ref a1_), .unset]) (plainFor_of_name pn10) (fun m => ef22_none_0 m a0_ a1_) ?_
  intro p e s m below meth c s₁ hx hby hml hown hnm hret hlk hZ X0 e0
  have N0 := Fr.nil n0
  have K0 : Keep h0 h0 [] := Keep.refl h0 _
  refine Go.st (t' := s₁.setTop (mkF m 2 #[.val (.ref a0_), .val (.ref a1_), .unset] [(.ref a1_), (.ref a0_)])) (fun target kt => ?_) ?_
  · refine XS.aloadN X0.here hx rfl (hb hby d22_0) rfl rfl ?_
    refine XS.aloadN X0.here hx rfl (hb hby d22_1) rfl rfl ?_
    exact kt
  obtain ⟨cq10, q10, q10'⟩ := E0.cell
  obtain ⟨_, _, ⟨T10, L10, k10, n10⟩, -, X10, ⟨Lc10, hQ10, l10, y10, z10⟩, st10⟩ := X0.privateBack hx (y := (⟨sq0, "find", "(Ljava/lang/Object;)I"⟩ : MethodName)) hown (mvT hZ (hw _ tw61)) (mvT hZ (hw _ tw62)) (mvT hZ (own_selp (y := (⟨sq0, "find", "(Ljava/lang/Object;)I"⟩ : MethodName)) (hw _ tw1) (hw _ tw63) (hw _ tw62) (by decide))) (Cond.privateMethod_at (mvP hZ (hw _ tw63) (args := #[]))) (mvT hZ (hw _ tw64)) (by decide) (backOf (W := 0) (rm11_none_0_0 l Z a0 hw [] a0_ a1_ pch wcs wn kn h0 n0 (Nat.le_trans Z0 K0.1) O0 S_CS hcs S_NM E_wn V_wn E0 F_m F_i F_s F_c E_a1) hZ (hw _ tw64) (hw _ tw2) (by decide) (by decide)) (g := (mkF m 2 #[.val (.ref a0_), .val (.ref a1_), .unset] [(.ref a1_), (.ref a0_)])) rfl (by rw [hml]; rfl) (Steps.refl _) (a := a0_) (by rw [e0]; exact q10) q10' (argsL := [(.ref a1_)]) (rest := []) (lenOf pd11 rfl) rfl (by show 2 * 0 + _ ≤ _; exact Nat.le_of_eq rfl) (hb hby d22_2) (fun _ _ => ⟨rfl, e0, (by decide : 0 + 0 ≤ _), (by decide : 0 + 0 ≤ _)⟩)
  dsimp only [Pt.U, Pt.locs, Pt.cells, Pt.slots] at X10 l10 y10 z10 st10 hQ10
  subst l10 y10 z10
  obtain ⟨rfl, Nq10, eq10⟩ := hQ10
  have N10 := Fr.app N0 Nq10
  refine Go.by st10 ?_
  show Go _ _ _ _ _ _ _ (T10.setTop (mkF m 5 _ [(.int (-1))]))
  refine Go.st (t' := T10.setTop (mkF m 24 #[.val (.ref a0_), .val (.ref a1_), .val (.int (-1))] [.null])) (fun target kt => ?_) ?_
  · refine XS.istoreN X10.here hx rfl (hb hby d22_5) rfl (l' := #[.val (.ref a0_), .val (.ref a1_), .val (.int (-1))]) rfl ?_
    refine XS.iloadN X10.here hx rfl (hb hby d22_6) rfl ?_
    refine XS.ifNo X10.here hx rfl (hb hby d22_7) rfl ((if0 _ _).trans (tlt (by decide : (-1 : Int32) < (0 : Int32))).2.1) ?_
    refine XS.aconstNull X10.here hx rfl (hb hby d22_10) ?_
    refine XS.goto X10.here hx rfl (pc0 := 11) (pc' := 24) rfl (hb hby d22_11) (by decide) (by decide) ?_
    exact kt
  refine Go.ret X10 (v := some .null) (fun h => by rw [hret] at h; cases h) hlk (fun fs hr => retR X10 hx hret rfl rfl (hb hby d22_24) hr) ?_ (by decide) (by decide)
  show Q22_none_0 Z a0_ a1_ pch wcs wn kn h0 n0 _ T10.heap _
  rw [eq10]
  exact ⟨rfl, N10, rfl⟩
theorem ef21_4 (m : MethodId) (x0 : Addr) (x1 : Addr) : entryFrame m #[(.ref x0), (.ref x1)] 2 = mkF m 0 #[.val (.ref x0), .val (.ref x1)] [] := by first | (simp [entryFrame, mkF, argsToLocals, Value.category]; done) | rfl
def Q21_4 (Z : State) (a0_ : Addr) (a1_ : Addr) (pch : Int32) (wcs : Int32) (am : Addr) (km : ClassId) (h0 : Heap) (n0 : Nat) (v : Option Value) (h : Heap) (L : List Loc) : Prop := v = some (.int 0) ∧ Fr n0 L ∧ h = h0
theorem rm21_4 (l : Launch) (Z : State) (a0 : Array Value) (hw : ∀ d ∈ tables_1, d.before a0 Z = true) (ws : List Jvm.Cond) (a0_ : Addr) (a1_ : Addr) (pch : Int32) (wcs : Int32) (am : Addr) (km : ClassId) (h0 : Heap) (n0 : Nat) (Z0 : n0 ≤ h0.size) (O0 : Old Z n0 h0) (S_CS : Sta Z Z.heap sq2 "COMPACT_STRINGS" "Z" (.int wcs)) (hcs : ¬ (wcs = (0 : Int32))) (E0 : Exa Z h0 a0_ sq0) (F_m : Fld Z h0 a0_ sq0 "members" sq3 (.ref am)) (F_i : Fld Z h0 a0_ sq0 "index" "[I" .null) (F_s : Fld Z h0 a0_ sq0 "size" "I" (.int 0)) (F_c : Fld Z h0 a0_ sq0 "changes" "I" (.int pch)) (E_m : Exa Z h0 am sq3) (V_m : Arv Z h0 am km (.object sq1) (4 : Int32) [.null, .null, .null, .null] .null) (E_a1 : Exa Z h0 a1_ sq2) :
    Met l Z ws (⟨sq0, "containsKey", "(Ljava/lang/Object;)Z"⟩ : MethodName) prog_14_method_3_code 2 (some .boolean) (Rm 1 0 0 16) #[(.ref a0_), (.ref a1_)] h0 (Q21_4 Z a0_ a1_ pch wcs am km h0 n0) := by
  refine Met.enter (L0 := #[.val (.ref a0_), .val (.ref a1_)]) (plainFor_of_name pn10) (fun m => ef21_4 m a0_ a1_) ?_
  intro p e s m below meth c s₁ hx hby hml hown hnm hret hlk hZ X0 e0
  have N0 := Fr.nil n0
  have K0 : Keep h0 h0 [] := Keep.refl h0 _
  refine Go.st (t' := s₁.setTop (mkF m 2 #[.val (.ref a0_), .val (.ref a1_)] [(.ref a1_), (.ref a0_)])) (fun target kt => ?_) ?_
  · refine XS.aloadN X0.here hx rfl (hb hby d21_0) rfl rfl ?_
    refine XS.aloadN X0.here hx rfl (hb hby d21_1) rfl rfl ?_
    exact kt
  obtain ⟨cq10, q10, q10'⟩ := E0.cell
  obtain ⟨_, _, ⟨T10, L10, k10, n10⟩, -, X10, ⟨Lc10, hQ10, l10, y10, z10⟩, st10⟩ := X0.privateBack hx (y := (⟨sq0, "find", "(Ljava/lang/Object;)I"⟩ : MethodName)) hown (mvT hZ (hw _ tw61)) (mvT hZ (hw _ tw62)) (mvT hZ (own_selp (y := (⟨sq0, "find", "(Ljava/lang/Object;)I"⟩ : MethodName)) (hw _ tw1) (hw _ tw63) (hw _ tw62) (by decide))) (Cond.privateMethod_at (mvP hZ (hw _ tw63) (args := #[]))) (mvT hZ (hw _ tw64)) (by decide) (backOf (W := 0) (rm11_none_0_4 l Z a0 hw [] a0_ a1_ pch wcs am km h0 n0 (Nat.le_trans Z0 K0.1) O0 S_CS hcs E0 F_m F_i F_s F_c E_m V_m E_a1) hZ (hw _ tw64) (hw _ tw2) (by decide) (by decide)) (g := (mkF m 2 #[.val (.ref a0_), .val (.ref a1_)] [(.ref a1_), (.ref a0_)])) rfl (by rw [hml]; rfl) (Steps.refl _) (a := a0_) (by rw [e0]; exact q10) q10' (argsL := [(.ref a1_)]) (rest := []) (lenOf pd11 rfl) rfl (by show 2 * 0 + _ ≤ _; exact Nat.le_of_eq rfl) (hb hby d21_2) (fun _ _ => ⟨rfl, e0, (by decide : 0 + 0 ≤ _), (by decide : 0 + 0 ≤ _)⟩)
  dsimp only [Pt.U, Pt.locs, Pt.cells, Pt.slots] at X10 l10 y10 z10 st10 hQ10
  subst l10 y10 z10
  obtain ⟨rfl, Nq10, eq10⟩ := hQ10
  have N10 := Fr.app N0 Nq10
  refine Go.by st10 ?_
  show Go _ _ _ _ _ _ _ (T10.setTop (mkF m 5 _ [(.int (-1))]))
  refine Go.st (t' := T10.setTop (mkF m 13 #[.val (.ref a0_), .val (.ref a1_)] [(.int 0)])) (fun target kt => ?_) ?_
  · refine XS.ifYes X10.here hx rfl (pc0 := 5) (pc' := 12) rfl (hb hby d21_5) rfl ((if0 _ _).trans (tlt (by decide : (-1 : Int32) < (0 : Int32))).1) (by decide) (by decide) ?_
    refine XS.iconst X10.here hx rfl (hb hby d21_12) ?_
    exact kt
  refine Go.ret X10 (v := some (.int 0)) (fun h => by rw [hret] at h; cases h) hlk (fun fs hr => retN X10 hx (t := .boolean) hret (by simp) (hb hby d21_13) hr) ?_ (by decide) (by decide)
  show Q21_4 Z a0_ a1_ pch wcs am km h0 n0 _ T10.heap _
  rw [eq10]
  exact ⟨rfl, N10, rfl⟩
theorem ef22_none_4 (m : MethodId) (x0 : Addr) (x1 : Addr) : entryFrame m #[(.ref x0), (.ref x1)] 3 = mkF m 0 #[.val (.ref x0), .val (.ref x1), .unset] [] := by first | (simp [entryFrame, mkF, argsToLocals, Value.category]; done) | rfl
def Q22_none_4 (Z : State) (a0_ : Addr) (a1_ : Addr) (pch : Int32) (wcs : Int32) (am : Addr) (km : ClassId) (h0 : Heap) (n0 : Nat) (v : Option Value) (h : Heap) (L : List Loc) : Prop := v = some .null ∧ Fr n0 L ∧ h = h0
theorem rm22_none_4 (l : Launch) (Z : State) (a0 : Array Value) (hw : ∀ d ∈ tables_1, d.before a0 Z = true) (ws : List Jvm.Cond) (a0_ : Addr) (a1_ : Addr) (pch : Int32) (wcs : Int32) (am : Addr) (km : ClassId) (h0 : Heap) (n0 : Nat) (Z0 : n0 ≤ h0.size) (O0 : Old Z n0 h0) (S_CS : Sta Z Z.heap sq2 "COMPACT_STRINGS" "Z" (.int wcs)) (hcs : ¬ (wcs = (0 : Int32))) (E0 : Exa Z h0 a0_ sq0) (F_m : Fld Z h0 a0_ sq0 "members" sq3 (.ref am)) (F_i : Fld Z h0 a0_ sq0 "index" "[I" .null) (F_s : Fld Z h0 a0_ sq0 "size" "I" (.int 0)) (F_c : Fld Z h0 a0_ sq0 "changes" "I" (.int pch)) (E_m : Exa Z h0 am sq3) (V_m : Arv Z h0 am km (.object sq1) (4 : Int32) [.null, .null, .null, .null] .null) (E_a1 : Exa Z h0 a1_ sq2) :
    Met l Z ws (⟨sq0, "get", "(Ljava/lang/Object;)Ljava/lang/Object;"⟩ : MethodName) prog_14_method_4_code 3 (some (.object sq1)) (Rm 1 0 0 16) #[(.ref a0_), (.ref a1_)] h0 (Q22_none_4 Z a0_ a1_ pch wcs am km h0 n0) := by
  refine Met.enter (L0 := #[.val (.ref a0_), .val (.ref a1_), .unset]) (plainFor_of_name pn10) (fun m => ef22_none_4 m a0_ a1_) ?_
  intro p e s m below meth c s₁ hx hby hml hown hnm hret hlk hZ X0 e0
  have N0 := Fr.nil n0
  have K0 : Keep h0 h0 [] := Keep.refl h0 _
  refine Go.st (t' := s₁.setTop (mkF m 2 #[.val (.ref a0_), .val (.ref a1_), .unset] [(.ref a1_), (.ref a0_)])) (fun target kt => ?_) ?_
  · refine XS.aloadN X0.here hx rfl (hb hby d22_0) rfl rfl ?_
    refine XS.aloadN X0.here hx rfl (hb hby d22_1) rfl rfl ?_
    exact kt
  obtain ⟨cq10, q10, q10'⟩ := E0.cell
  obtain ⟨_, _, ⟨T10, L10, k10, n10⟩, -, X10, ⟨Lc10, hQ10, l10, y10, z10⟩, st10⟩ := X0.privateBack hx (y := (⟨sq0, "find", "(Ljava/lang/Object;)I"⟩ : MethodName)) hown (mvT hZ (hw _ tw61)) (mvT hZ (hw _ tw62)) (mvT hZ (own_selp (y := (⟨sq0, "find", "(Ljava/lang/Object;)I"⟩ : MethodName)) (hw _ tw1) (hw _ tw63) (hw _ tw62) (by decide))) (Cond.privateMethod_at (mvP hZ (hw _ tw63) (args := #[]))) (mvT hZ (hw _ tw64)) (by decide) (backOf (W := 0) (rm11_none_0_4 l Z a0 hw [] a0_ a1_ pch wcs am km h0 n0 (Nat.le_trans Z0 K0.1) O0 S_CS hcs E0 F_m F_i F_s F_c E_m V_m E_a1) hZ (hw _ tw64) (hw _ tw2) (by decide) (by decide)) (g := (mkF m 2 #[.val (.ref a0_), .val (.ref a1_), .unset] [(.ref a1_), (.ref a0_)])) rfl (by rw [hml]; rfl) (Steps.refl _) (a := a0_) (by rw [e0]; exact q10) q10' (argsL := [(.ref a1_)]) (rest := []) (lenOf pd11 rfl) rfl (by show 2 * 0 + _ ≤ _; exact Nat.le_of_eq rfl) (hb hby d22_2) (fun _ _ => ⟨rfl, e0, (by decide : 0 + 0 ≤ _), (by decide : 0 + 0 ≤ _)⟩)
  dsimp only [Pt.U, Pt.locs, Pt.cells, Pt.slots] at X10 l10 y10 z10 st10 hQ10
  subst l10 y10 z10
  obtain ⟨rfl, Nq10, eq10⟩ := hQ10
  have N10 := Fr.app N0 Nq10
  refine Go.by st10 ?_
  show Go _ _ _ _ _ _ _ (T10.setTop (mkF m 5 _ [(.int (-1))]))
  refine Go.st (t' := T10.setTop (mkF m 24 #[.val (.ref a0_), .val (.ref a1_), .val (.int (-1))] [.null])) (fun target kt => ?_) ?_
  · refine XS.istoreN X10.here hx rfl (hb hby d22_5) rfl (l' := #[.val (.ref a0_), .val (.ref a1_), .val (.int (-1))]) rfl ?_
    refine XS.iloadN X10.here hx rfl (hb hby d22_6) rfl ?_
    refine XS.ifNo X10.here hx rfl (hb hby d22_7) rfl ((if0 _ _).trans (tlt (by decide : (-1 : Int32) < (0 : Int32))).2.1) ?_
    refine XS.aconstNull X10.here hx rfl (hb hby d22_10) ?_
    refine XS.goto X10.here hx rfl (pc0 := 11) (pc' := 24) rfl (hb hby d22_11) (by decide) (by decide) ?_
    exact kt
  refine Go.ret X10 (v := some .null) (fun h => by rw [hret] at h; cases h) hlk (fun fs hr => retR X10 hx hret rfl rfl (hb hby d22_24) hr) ?_ (by decide) (by decide)
  show Q22_none_4 Z a0_ a1_ pch wcs am km h0 n0 _ T10.heap _
  rw [eq10]
  exact ⟨rfl, N10, rfl⟩
theorem ef21_6 (m : MethodId) (x0 : Addr) (x1 : Addr) : entryFrame m #[(.ref x0), (.ref x1)] 2 = mkF m 0 #[.val (.ref x0), .val (.ref x1)] [] := by first | (simp [entryFrame, mkF, argsToLocals, Value.category]; done) | rfl
def Q21_6 (Z : State) (a0_ : Addr) (a1_ : Addr) (pch : Int32) (wcs : Int32) (am : Addr) (km : ClassId) (h0 : Heap) (n0 : Nat) (v : Option Value) (h : Heap) (L : List Loc) : Prop := v = some (.int 0) ∧ Fr n0 L ∧ h = h0
theorem rm21_6 (l : Launch) (Z : State) (a0 : Array Value) (hw : ∀ d ∈ tables_1, d.before a0 Z = true) (ws : List Jvm.Cond) (a0_ : Addr) (a1_ : Addr) (pch : Int32) (wcs : Int32) (am : Addr) (km : ClassId) (h0 : Heap) (n0 : Nat) (Z0 : n0 ≤ h0.size) (O0 : Old Z n0 h0) (S_CS : Sta Z Z.heap sq2 "COMPACT_STRINGS" "Z" (.int wcs)) (hcs : ¬ (wcs = (0 : Int32))) (E0 : Exa Z h0 a0_ sq0) (F_m : Fld Z h0 a0_ sq0 "members" sq3 (.ref am)) (F_i : Fld Z h0 a0_ sq0 "index" "[I" .null) (F_s : Fld Z h0 a0_ sq0 "size" "I" (.int 0)) (F_c : Fld Z h0 a0_ sq0 "changes" "I" (.int pch)) (E_m : Exa Z h0 am sq3) (V_m : Arv Z h0 am km (.object sq1) (6 : Int32) [.null, .null, .null, .null, .null, .null] .null) (E_a1 : Exa Z h0 a1_ sq2) :
    Met l Z ws (⟨sq0, "containsKey", "(Ljava/lang/Object;)Z"⟩ : MethodName) prog_14_method_3_code 2 (some .boolean) (Rm 1 0 0 16) #[(.ref a0_), (.ref a1_)] h0 (Q21_6 Z a0_ a1_ pch wcs am km h0 n0) := by
  refine Met.enter (L0 := #[.val (.ref a0_), .val (.ref a1_)]) (plainFor_of_name pn10) (fun m => ef21_6 m a0_ a1_) ?_
  intro p e s m below meth c s₁ hx hby hml hown hnm hret hlk hZ X0 e0
  have N0 := Fr.nil n0
  have K0 : Keep h0 h0 [] := Keep.refl h0 _
  refine Go.st (t' := s₁.setTop (mkF m 2 #[.val (.ref a0_), .val (.ref a1_)] [(.ref a1_), (.ref a0_)])) (fun target kt => ?_) ?_
  · refine XS.aloadN X0.here hx rfl (hb hby d21_0) rfl rfl ?_
    refine XS.aloadN X0.here hx rfl (hb hby d21_1) rfl rfl ?_
    exact kt
  obtain ⟨cq10, q10, q10'⟩ := E0.cell
  obtain ⟨_, _, ⟨T10, L10, k10, n10⟩, -, X10, ⟨Lc10, hQ10, l10, y10, z10⟩, st10⟩ := X0.privateBack hx (y := (⟨sq0, "find", "(Ljava/lang/Object;)I"⟩ : MethodName)) hown (mvT hZ (hw _ tw61)) (mvT hZ (hw _ tw62)) (mvT hZ (own_selp (y := (⟨sq0, "find", "(Ljava/lang/Object;)I"⟩ : MethodName)) (hw _ tw1) (hw _ tw63) (hw _ tw62) (by decide))) (Cond.privateMethod_at (mvP hZ (hw _ tw63) (args := #[]))) (mvT hZ (hw _ tw64)) (by decide) (backOf (W := 0) (rm11_none_0_6 l Z a0 hw [] a0_ a1_ pch wcs am km h0 n0 (Nat.le_trans Z0 K0.1) O0 S_CS hcs E0 F_m F_i F_s F_c E_m V_m E_a1) hZ (hw _ tw64) (hw _ tw2) (by decide) (by decide)) (g := (mkF m 2 #[.val (.ref a0_), .val (.ref a1_)] [(.ref a1_), (.ref a0_)])) rfl (by rw [hml]; rfl) (Steps.refl _) (a := a0_) (by rw [e0]; exact q10) q10' (argsL := [(.ref a1_)]) (rest := []) (lenOf pd11 rfl) rfl (by show 2 * 0 + _ ≤ _; exact Nat.le_of_eq rfl) (hb hby d21_2) (fun _ _ => ⟨rfl, e0, (by decide : 0 + 0 ≤ _), (by decide : 0 + 0 ≤ _)⟩)
  dsimp only [Pt.U, Pt.locs, Pt.cells, Pt.slots] at X10 l10 y10 z10 st10 hQ10
  subst l10 y10 z10
  obtain ⟨rfl, Nq10, eq10⟩ := hQ10
  have N10 := Fr.app N0 Nq10
  refine Go.by st10 ?_
  show Go _ _ _ _ _ _ _ (T10.setTop (mkF m 5 _ [(.int (-1))]))
  refine Go.st (t' := T10.setTop (mkF m 13 #[.val (.ref a0_), .val (.ref a1_)] [(.int 0)])) (fun target kt => ?_) ?_
  · refine XS.ifYes X10.here hx rfl (pc0 := 5) (pc' := 12) rfl (hb hby d21_5) rfl ((if0 _ _).trans (tlt (by decide : (-1 : Int32) < (0 : Int32))).1) (by decide) (by decide) ?_
    refine XS.iconst X10.here hx rfl (hb hby d21_12) ?_
    exact kt
  refine Go.ret X10 (v := some (.int 0)) (fun h => by rw [hret] at h; cases h) hlk (fun fs hr => retN X10 hx (t := .boolean) hret (by simp) (hb hby d21_13) hr) ?_ (by decide) (by decide)
  show Q21_6 Z a0_ a1_ pch wcs am km h0 n0 _ T10.heap _
  rw [eq10]
  exact ⟨rfl, N10, rfl⟩
theorem ef22_none_6 (m : MethodId) (x0 : Addr) (x1 : Addr) : entryFrame m #[(.ref x0), (.ref x1)] 3 = mkF m 0 #[.val (.ref x0), .val (.ref x1), .unset] [] := by first | (simp [entryFrame, mkF, argsToLocals, Value.category]; done) | rfl
def Q22_none_6 (Z : State) (a0_ : Addr) (a1_ : Addr) (pch : Int32) (wcs : Int32) (am : Addr) (km : ClassId) (h0 : Heap) (n0 : Nat) (v : Option Value) (h : Heap) (L : List Loc) : Prop := v = some .null ∧ Fr n0 L ∧ h = h0
theorem rm22_none_6 (l : Launch) (Z : State) (a0 : Array Value) (hw : ∀ d ∈ tables_1, d.before a0 Z = true) (ws : List Jvm.Cond) (a0_ : Addr) (a1_ : Addr) (pch : Int32) (wcs : Int32) (am : Addr) (km : ClassId) (h0 : Heap) (n0 : Nat) (Z0 : n0 ≤ h0.size) (O0 : Old Z n0 h0) (S_CS : Sta Z Z.heap sq2 "COMPACT_STRINGS" "Z" (.int wcs)) (hcs : ¬ (wcs = (0 : Int32))) (E0 : Exa Z h0 a0_ sq0) (F_m : Fld Z h0 a0_ sq0 "members" sq3 (.ref am)) (F_i : Fld Z h0 a0_ sq0 "index" "[I" .null) (F_s : Fld Z h0 a0_ sq0 "size" "I" (.int 0)) (F_c : Fld Z h0 a0_ sq0 "changes" "I" (.int pch)) (E_m : Exa Z h0 am sq3) (V_m : Arv Z h0 am km (.object sq1) (6 : Int32) [.null, .null, .null, .null, .null, .null] .null) (E_a1 : Exa Z h0 a1_ sq2) :
    Met l Z ws (⟨sq0, "get", "(Ljava/lang/Object;)Ljava/lang/Object;"⟩ : MethodName) prog_14_method_4_code 3 (some (.object sq1)) (Rm 1 0 0 16) #[(.ref a0_), (.ref a1_)] h0 (Q22_none_6 Z a0_ a1_ pch wcs am km h0 n0) := by
  refine Met.enter (L0 := #[.val (.ref a0_), .val (.ref a1_), .unset]) (plainFor_of_name pn10) (fun m => ef22_none_6 m a0_ a1_) ?_
  intro p e s m below meth c s₁ hx hby hml hown hnm hret hlk hZ X0 e0
  have N0 := Fr.nil n0
  have K0 : Keep h0 h0 [] := Keep.refl h0 _
  refine Go.st (t' := s₁.setTop (mkF m 2 #[.val (.ref a0_), .val (.ref a1_), .unset] [(.ref a1_), (.ref a0_)])) (fun target kt => ?_) ?_
  · refine XS.aloadN X0.here hx rfl (hb hby d22_0) rfl rfl ?_
    refine XS.aloadN X0.here hx rfl (hb hby d22_1) rfl rfl ?_
    exact kt
  obtain ⟨cq10, q10, q10'⟩ := E0.cell
  obtain ⟨_, _, ⟨T10, L10, k10, n10⟩, -, X10, ⟨Lc10, hQ10, l10, y10, z10⟩, st10⟩ := X0.privateBack hx (y := (⟨sq0, "find", "(Ljava/lang/Object;)I"⟩ : MethodName)) hown (mvT hZ (hw _ tw61)) (mvT hZ (hw _ tw62)) (mvT hZ (own_selp (y := (⟨sq0, "find", "(Ljava/lang/Object;)I"⟩ : MethodName)) (hw _ tw1) (hw _ tw63) (hw _ tw62) (by decide))) (Cond.privateMethod_at (mvP hZ (hw _ tw63) (args := #[]))) (mvT hZ (hw _ tw64)) (by decide) (backOf (W := 0) (rm11_none_0_6 l Z a0 hw [] a0_ a1_ pch wcs am km h0 n0 (Nat.le_trans Z0 K0.1) O0 S_CS hcs E0 F_m F_i F_s F_c E_m V_m E_a1) hZ (hw _ tw64) (hw _ tw2) (by decide) (by decide)) (g := (mkF m 2 #[.val (.ref a0_), .val (.ref a1_), .unset] [(.ref a1_), (.ref a0_)])) rfl (by rw [hml]; rfl) (Steps.refl _) (a := a0_) (by rw [e0]; exact q10) q10' (argsL := [(.ref a1_)]) (rest := []) (lenOf pd11 rfl) rfl (by show 2 * 0 + _ ≤ _; exact Nat.le_of_eq rfl) (hb hby d22_2) (fun _ _ => ⟨rfl, e0, (by decide : 0 + 0 ≤ _), (by decide : 0 + 0 ≤ _)⟩)
  dsimp only [Pt.U, Pt.locs, Pt.cells, Pt.slots] at X10 l10 y10 z10 st10 hQ10
  subst l10 y10 z10
  obtain ⟨rfl, Nq10, eq10⟩ := hQ10
  have N10 := Fr.app N0 Nq10
  refine Go.by st10 ?_
  show Go _ _ _ _ _ _ _ (T10.setTop (mkF m 5 _ [(.int (-1))]))
  refine Go.st (t' := T10.setTop (mkF m 24 #[.val (.ref a0_), .val (.ref a1_), .val (.int (-1))] [.null])) (fun target kt => ?_) ?_
  · refine XS.istoreN X10.here hx rfl (hb hby d22_5) rfl (l' := #[.val (.ref a0_), .val (.ref a1_), .val (.int (-1))]) rfl ?_
    refine XS.iloadN X10.here hx rfl (hb hby d22_6) rfl ?_
    refine XS.ifNo X10.here hx rfl (hb hby d22_7) rfl ((if0 _ _).trans (tlt (by decide : (-1 : Int32) < (0 : Int32))).2.1) ?_
    refine XS.aconstNull X10.here hx rfl (hb hby d22_10) ?_
    refine XS.goto X10.here hx rfl (pc0 := 11) (pc' := 24) rfl (hb hby d22_11) (by decide) (by decide) ?_
    exact kt
  refine Go.ret X10 (v := some .null) (fun h => by rw [hret] at h; cases h) hlk (fun fs hr => retR X10 hx hret rfl rfl (hb hby d22_24) hr) ?_ (by decide) (by decide)
  show Q22_none_6 Z a0_ a1_ pch wcs am km h0 n0 _ T10.heap _
  rw [eq10]
  exact ⟨rfl, N10, rfl⟩
theorem d22_14 : decode prog_14_method_4_code 14 = .ok (.aload_n 0, 1) := by decide +kernel
theorem d22_15 : decode prog_14_method_4_code 15 = .ok (.getfield 13, 3) := by decide +kernel
theorem d22_18 : decode prog_14_method_4_code 18 = .ok (.iconst 2, 1) := by decide +kernel
theorem d22_19 : decode prog_14_method_4_code 19 = .ok (.iload_n 2, 1) := by decide +kernel
theorem d22_20 : decode prog_14_method_4_code 20 = .ok (.imul, 1) := by decide +kernel
theorem d22_21 : decode prog_14_method_4_code 21 = .ok (.iconst 1, 1) := by decide +kernel
theorem d22_22 : decode prog_14_method_4_code 22 = .ok (.iadd, 1) := by decide +kernel
theorem d22_23 : decode prog_14_method_4_code 23 = .ok (.aaload, 1) := by decide +kernel
theorem ef22_same_4 (m : MethodId) (x0 : Addr) (x1 : Addr) : entryFrame m #[(.ref x0), (.ref x1)] 3 = mkF m 0 #[.val (.ref x0), .val (.ref x1), .unset] [] := by first | (simp [entryFrame, mkF, argsToLocals, Value.category]; done) | rfl
def Q22_same_4 (Z : State) (a0_ : Addr) (y0 : Addr) (pch : Int32) (wcs : Int32) (am : Addr) (km : ClassId) (u0 : Addr) (h0 : Heap) (n0 : Nat) (v : Option Value) (h : Heap) (L : List Loc) : Prop := v = some (.ref u0) ∧ Fr n0 L ∧ h = h0
theorem rm22_same_4 (l : Launch) (Z : State) (a0 : Array Value) (hw : ∀ d ∈ tables_1, d.before a0 Z = true) (ws : List Jvm.Cond) (a0_ : Addr) (y0 : Addr) (pch : Int32) (wcs : Int32) (am : Addr) (km : ClassId) (u0 : Addr) (h0 : Heap) (n0 : Nat) (Z0 : n0 ≤ h0.size) (O0 : Old Z n0 h0) (S_CS : Sta Z Z.heap sq2 "COMPACT_STRINGS" "Z" (.int wcs)) (hcs : ¬ (wcs = (0 : Int32))) (E0 : Exa Z h0 a0_ sq0) (F_m : Fld Z h0 a0_ sq0 "members" sq3 (.ref am)) (F_i : Fld Z h0 a0_ sq0 "index" "[I" .null) (F_s : Fld Z h0 a0_ sq0 "size" "I" (.int 1)) (F_c : Fld Z h0 a0_ sq0 "changes" "I" (.int pch)) (E_m : Exa Z h0 am sq3) (V_m : Arv Z h0 am km (.object sq1) (4 : Int32) [(.ref y0), (.ref u0), .null, .null] .null) (E_y0 : Exa Z h0 y0 sq2) :
    Met l Z ws (⟨sq0, "get", "(Ljava/lang/Object;)Ljava/lang/Object;"⟩ : MethodName) prog_14_method_4_code 3 (some (.object sq1)) (Rm 2 0 0 30) #[(.ref a0_), (.ref y0)] h0 (Q22_same_4 Z a0_ y0 pch wcs am km u0 h0 n0) := by
  refine Met.enter (L0 := #[.val (.ref a0_), .val (.ref y0), .unset]) (plainFor_of_name pn10) (fun m => ef22_same_4 m a0_ y0) ?_
  intro p e s m below meth c s₁ hx hby hml hown hnm hret hlk hZ X0 e0
  have N0 := Fr.nil n0
  have K0 : Keep h0 h0 [] := Keep.refl h0 _
  refine Go.st (t' := s₁.setTop (mkF m 2 #[.val (.ref a0_), .val (.ref y0), .unset] [(.ref y0), (.ref a0_)])) (fun target kt => ?_) ?_
  · refine XS.aloadN X0.here hx rfl (hb hby d22_0) rfl rfl ?_
    refine XS.aloadN X0.here hx rfl (hb hby d22_1) rfl rfl ?_
    exact kt
  obtain ⟨cq10, q10, q10'⟩ := E0.cell
  obtain ⟨_, _, ⟨T10, L10, k10, n10⟩, -, X10, ⟨Lc10, hQ10, l10, y10, z10⟩, st10⟩ := X0.privateBack hx (y := (⟨sq0, "find", "(Ljava/lang/Object;)I"⟩ : MethodName)) hown (mvT hZ (hw _ tw61)) (mvT hZ (hw _ tw62)) (mvT hZ (own_selp (y := (⟨sq0, "find", "(Ljava/lang/Object;)I"⟩ : MethodName)) (hw _ tw1) (hw _ tw63) (hw _ tw62) (by decide))) (Cond.privateMethod_at (mvP hZ (hw _ tw63) (args := #[]))) (mvT hZ (hw _ tw64)) (by decide) (backOf (W := 0) (rm11_same_1_4 l Z a0 hw [] a0_ y0 pch wcs am km (.ref u0) h0 n0 (Nat.le_trans Z0 K0.1) O0 S_CS hcs E0 F_m F_i F_s F_c E_m V_m E_y0) hZ (hw _ tw64) (hw _ tw2) (by decide) (by decide)) (g := (mkF m 2 #[.val (.ref a0_), .val (.ref y0), .unset] [(.ref y0), (.ref a0_)])) rfl (by rw [hml]; rfl) (Steps.refl _) (a := a0_) (by rw [e0]; exact q10) q10' (argsL := [(.ref y0)]) (rest := []) (lenOf pd11 rfl) rfl (by show 2 * 0 + _ ≤ _; exact Nat.le_of_eq rfl) (hb hby d22_2) (fun _ _ => ⟨rfl, e0, (by decide : 0 + 0 ≤ _), (by decide : 0 + 0 ≤ _)⟩)
  dsimp only [Pt.U, Pt.locs, Pt.cells, Pt.slots] at X10 l10 y10 z10 st10 hQ10
  subst l10 y10 z10
  obtain ⟨rfl, Nq10, eq10⟩ := hQ10
  have N10 := Fr.app N0 Nq10
  refine Go.by st10 ?_
  show Go _ _ _ _ _ _ _ (T10.setTop (mkF m 5 _ [(.int 0)]))
  refine Go.st (t' := T10.setTop (mkF m 15 #[.val (.ref a0_), .val (.ref y0), .val (.int 0)] [(.ref a0_)])) (fun target kt => ?_) ?_
  · refine XS.istoreN X10.here hx rfl (hb hby d22_5) rfl (l' := #[.val (.ref a0_), .val (.ref y0), .val (.int 0)]) rfl ?_
    refine XS.iloadN X10.here hx rfl (hb hby d22_6) rfl ?_
    refine XS.ifYes X10.here hx rfl (pc0 := 7) (pc' := 14) rfl (hb hby d22_7) rfl ((if0 _ _).trans (flt (by decide : ¬ ((0 : Int32) < (0 : Int32)))).2.1) (by decide) (by decide) ?_
    refine XS.aloadN X10.here hx rfl (hb hby d22_14) rfl rfl ?_
    exact kt
  obtain ⟨T11, X11, e11, st11⟩ := getF X10 hx hZ hown (host := "") (Or.inl (hw _ tw16)) Via.refl eq10 F_m (g := (mkF m 15 #[.val (.ref a0_), .val (.ref y0), .val (.int 0)] [(.ref a0_)])) rfl rfl (hb hby d22_15)
  refine Go.st st11 ?_
  show Go _ _ _ _ _ _ _ (T11.setTop (mkF m 18 _ [(.ref am)]))
  obtain ⟨cl12, Ar12, -, S12, M12, H12, -⟩ := id V_m
  have hin12 : ¬ ((1 : Int32) < 0 ∨ cl12.slots.size ≤ ((1 : Int32)).toNatClampNeg) := inb_of S12 ⟨by decide, by decide⟩
  have hat12 : cl12.slots[((1 : Int32)).toNatClampNeg]? = some (.ref u0) := H12.at hin12 rfl
  refine Go.st (t' := T11.setTop (mkF m 24 #[.val (.ref a0_), .val (.ref y0), .val (.int 0)] [(.ref u0)])) (fun target kt => ?_) ?_
  · refine XS.iconst X11.here hx rfl (hb hby d22_18) ?_
    refine XS.iloadN X11.here hx rfl (hb hby d22_19) rfl ?_
    refine XS.imul X11.here hx rfl (hb hby d22_20) rfl ?_
    refine XS.iconst X11.here hx rfl (hb hby d22_21) ?_
    refine XS.iadd X11.here hx rfl (hb hby d22_22) rfl ?_
    refine X11.aaload hx (j := (1 : Int32)) (v := (.ref u0)) (by rw [e11]; exact Ar12.1) (State.isArrayOf_alike hZ.alike Ar12.2.1) rfl Ar12.2.2 hin12 hat12 (g := (mkF m 23 #[.val (.ref a0_), .val (.ref y0), .val (.int 0)] [(.int 1), (.ref am)])) rfl rfl (hb hby d22_23) _ ?_
    exact kt
  refine Go.ret X11 (v := some (.ref u0)) (fun h => by rw [hret] at h; cases h) hlk (fun fs hr => retR X11 hx hret rfl rfl (hb hby d22_24) hr) ?_ (by decide) (by decide)
  show Q22_same_4 Z a0_ y0 pch wcs am km u0 h0 n0 _ T11.heap _
  rw [e11]
  exact ⟨rfl, N10, rfl⟩
theorem ef22_same_6 (m : MethodId) (x0 : Addr) (x1 : Addr) : entryFrame m #[(.ref x0), (.ref x1)] 3 = mkF m 0 #[.val (.ref x0), .val (.ref x1), .unset] [] := by first | (simp [entryFrame, mkF, argsToLocals, Value.category]; done) | rfl
def Q22_same_6 (Z : State) (a0_ : Addr) (y0 : Addr) (pch : Int32) (wcs : Int32) (am : Addr) (km : ClassId) (u0 : Addr) (h0 : Heap) (n0 : Nat) (v : Option Value) (h : Heap) (L : List Loc) : Prop := v = some (.ref u0) ∧ Fr n0 L ∧ h = h0
theorem rm22_same_6 (l : Launch) (Z : State) (a0 : Array Value) (hw : ∀ d ∈ tables_1, d.before a0 Z = true) (ws : List Jvm.Cond) (a0_ : Addr) (y0 : Addr) (pch : Int32) (wcs : Int32) (am : Addr) (km : ClassId) (u0 : Addr) (h0 : Heap) (n0 : Nat) (Z0 : n0 ≤ h0.size) (O0 : Old Z n0 h0) (S_CS : Sta Z Z.heap sq2 "COMPACT_STRINGS" "Z" (.int wcs)) (hcs : ¬ (wcs = (0 : Int32))) (E0 : Exa Z h0 a0_ sq0) (F_m : Fld Z h0 a0_ sq0 "members" sq3 (.ref am)) (F_i : Fld Z h0 a0_ sq0 "index" "[I" .null) (F_s : Fld Z h0 a0_ sq0 "size" "I" (.int 1)) (F_c : Fld Z h0 a0_ sq0 "changes" "I" (.int pch)) (E_m : Exa Z h0 am sq3) (V_m : Arv Z h0 am km (.object sq1) (6 : Int32) [(.ref y0), (.ref u0), .null, .null, .null, .null] .null) (E_y0 : Exa Z h0 y0 sq2) :
    Met l Z ws (⟨sq0, "get", "(Ljava/lang/Object;)Ljava/lang/Object;"⟩ : MethodName) prog_14_method_4_code 3 (some (.object sq1)) (Rm 2 0 0 30) #[(.ref a0_), (.ref y0)] h0 (Q22_same_6 Z a0_ y0 pch wcs am km u0 h0 n0) := by
  refine Met.enter (L0 := #[.val (.ref a0_), .val (.ref y0), .unset]) (plainFor_of_name pn10) (fun m => ef22_same_6 m a0_ y0) ?_
  intro p e s m below meth c s₁ hx hby hml hown hnm hret hlk hZ X0 e0
  have N0 := Fr.nil n0
  have K0 : Keep h0 h0 [] := Keep.refl h0 _
  refine Go.st (t' := s₁.setTop (mkF m 2 #[.val (.ref a0_), .val (.ref y0), .unset] [(.ref y0), (.ref a0_)])) (fun target kt => ?_) ?_
  · refine XS.aloadN X0.here hx rfl (hb hby d22_0) rfl rfl ?_
    refine XS.aloadN X0.here hx rfl (hb hby d22_1) rfl rfl ?_
    exact kt
  obtain ⟨cq10, q10, q10'⟩ := E0.cell
  obtain ⟨_, _, ⟨T10, L10, k10, n10⟩, -, X10, ⟨Lc10, hQ10, l10, y10, z10⟩, st10⟩ := X0.privateBack hx (y := (⟨sq0, "find", "(Ljava/lang/Object;)I"⟩ : MethodName)) hown (mvT hZ (hw _ tw61)) (mvT hZ (hw _ tw62)) (mvT hZ (own_selp (y := (⟨sq0, "find", "(Ljava/lang/Object;)I"⟩ : MethodName)) (hw _ tw1) (hw _ tw63) (hw _ tw62) (by decide))) (Cond.privateMethod_at (mvP hZ (hw _ tw63) (args := #[]))) (mvT hZ (hw _ tw64)) (by decide) (backOf (W := 0) (rm11_same_1_6 l Z a0 hw [] a0_ y0 pch wcs am km (.ref u0) h0 n0 (Nat.le_trans Z0 K0.1) O0 S_CS hcs E0 F_m F_i F_s F_c E_m V_m E_y0) hZ (hw _ tw64) (hw _ tw2) (by decide) (by decide)) (g := (mkF m 2 #[.val (.ref a0_), .val (.ref y0), .unset] [(.ref y0), (.ref a0_)])) rfl (by rw [hml]; rfl) (Steps.refl _) (a := a0_) (by rw [e0]; exact q10) q10' (argsL := [(.ref y0)]) (rest := []) (lenOf pd11 rfl) rfl (by show 2 * 0 + _ ≤ _; exact Nat.le_of_eq rfl) (hb hby d22_2) (fun _ _ => ⟨rfl, e0, (by decide : 0 + 0 ≤ _), (by decide : 0 + 0 ≤ _)⟩)
  dsimp only [Pt.U, Pt.locs, Pt.cells, Pt.slots] at X10 l10 y10 z10 st10 hQ10
  subst l10 y10 z10
  obtain ⟨rfl, Nq10, eq10⟩ := hQ10
  have N10 := Fr.app N0 Nq10
  refine Go.by st10 ?_
  show Go _ _ _ _ _ _ _ (T10.setTop (mkF m 5 _ [(.int 0)]))
  refine Go.st (t' := T10.setTop (mkF m 15 #[.val (.ref a0_), .val (.ref y0), .val (.int 0)] [(.ref a0_)])) (fun target kt => ?_) ?_
  · refine XS.istoreN X10.here hx rfl (hb hby d22_5) rfl (l' := #[.val (.ref a0_), .val (.ref y0), .val (.int 0)]) rfl ?_
    refine XS.iloadN X10.here hx rfl (hb hby d22_6) rfl ?_
    refine XS.ifYes X10.here hx rfl (pc0 := 7) (pc' := 14) rfl (hb hby d22_7) rfl ((if0 _ _).trans (flt (by decide : ¬ ((0 : Int32) < (0 : Int32)))).2.1) (by decide) (by decide) ?_
    refine XS.aloadN X10.here hx rfl (hb hby d22_14) rfl rfl ?_
    exact kt
  obtain ⟨T11, X11, e11, st11⟩ := getF X10 hx hZ hown (host := "") (Or.inl (hw _ tw16)) Via.refl eq10 F_m (g := (mkF m 15 #[.val (.ref a0_), .val (.ref y0), .val (.int 0)] [(.ref a0_)])) rfl rfl (hb hby d22_15)
  refine Go.st st11 ?_
  show Go _ _ _ _ _ _ _ (T11.setTop (mkF m 18 _ [(.ref am)]))
  obtain ⟨cl12, Ar12, -, S12, M12, H12, -⟩ := id V_m
  have hin12 : ¬ ((1 : Int32) < 0 ∨ cl12.slots.size ≤ ((1 : Int32)).toNatClampNeg) := inb_of S12 ⟨by decide, by decide⟩
  have hat12 : cl12.slots[((1 : Int32)).toNatClampNeg]? = some (.ref u0) := H12.at hin12 rfl
  refine Go.st (t' := T11.setTop (mkF m 24 #[.val (.ref a0_), .val (.ref y0), .val (.int 0)] [(.ref u0)])) (fun target kt => ?_) ?_
  · refine XS.iconst X11.here hx rfl (hb hby d22_18) ?_
    refine XS.iloadN X11.here hx rfl (hb hby d22_19) rfl ?_
    refine XS.imul X11.here hx rfl (hb hby d22_20) rfl ?_
    refine XS.iconst X11.here hx rfl (hb hby d22_21) ?_
    refine XS.iadd X11.here hx rfl (hb hby d22_22) rfl ?_
    refine X11.aaload hx (j := (1 : Int32)) (v := (.ref u0)) (by rw [e11]; exact Ar12.1) (State.isArrayOf_alike hZ.alike Ar12.2.1) rfl Ar12.2.2 hin12 hat12 (g := (mkF m 23 #[.val (.ref a0_), .val (.ref y0), .val (.int 0)] [(.int 1), (.ref am)])) rfl rfl (hb hby d22_23) _ ?_
    exact kt
  refine Go.ret X11 (v := some (.ref u0)) (fun h => by rw [hret] at h; cases h) hlk (fun fs hr => retR X11 hx hret rfl rfl (hb hby d22_24) hr) ?_ (by decide) (by decide)
  show Q22_same_6 Z a0_ y0 pch wcs am km u0 h0 n0 _ T11.heap _
  rw [e11]
  exact ⟨rfl, N10, rfl⟩
theorem tw0 : (Jvm.Cond.classLink "com/example/graphweave/graphweave/json/JsonObjectClearPinLaw" (7 : Nat) "com/example/graphweave/graphweave/json/JsonObject") ∈ tables_1 := List.mem_of_getElem? (i := 0) rfl
theorem tw3 : (Jvm.Cond.methodLink "com/example/graphweave/graphweave/json/JsonObjectClearPinLaw" (9 : Nat) ({ cls := "com/example/graphweave/graphweave/json/JsonObject", name := "<init>", desc := "()V" } : Jvm.MethodName)) ∈ tables_1 := List.mem_of_getElem? (i := 3) rfl
theorem tw5 : (Jvm.Cond.code ({ cls := "com/example/graphweave/graphweave/json/JsonObject", name := "<init>", desc := "()V" } : Jvm.MethodName) prog_14_method_1_code (1 : Nat) (Option.none : Option Jvm.ClassFile.FieldType)) ∈ tables_1 := List.mem_of_getElem? (i := 5) rfl
theorem tw4 : (Jvm.Cond.instanceMethod ({ cls := "com/example/graphweave/graphweave/json/JsonObject", name := "<init>", desc := "()V" } : Jvm.MethodName)) ∈ tables_1 := List.mem_of_getElem? (i := 4) rfl
theorem tw18 : (Jvm.Cond.methodLink "com/example/graphweave/graphweave/json/JsonObjectClearPinLaw" (10 : Nat) ({ cls := "java/lang/String", name := "valueOf", desc := "(C)Ljava/lang/String;" } : Jvm.MethodName)) ∈ tables_1 := List.mem_of_getElem? (i := 18) rfl
theorem tw21 : (Jvm.Cond.code ({ cls := "java/lang/String", name := "valueOf", desc := "(C)Ljava/lang/String;" } : Jvm.MethodName) jdk_42_method_139_code (1 : Nat) (Option.some (Jvm.ClassFile.FieldType.object "java/lang/String"))) ∈ tables_1 := List.mem_of_getElem? (i := 21) rfl
theorem pd14 : parseMethodDescriptor "(C)Ljava/lang/String;" = some ⟨[.char], some (.object "java/lang/String")⟩ := by decide +kernel
theorem tw19 : (Jvm.Cond.static ({ cls := "java/lang/String", name := "valueOf", desc := "(C)Ljava/lang/String;" } : Jvm.MethodName)) ∈ tables_1 := List.mem_of_getElem? (i := 19) rfl
theorem tw42 : (Jvm.Cond.methodLink "com/example/graphweave/graphweave/json/JsonObjectClearPinLaw" (16 : Nat) ({ cls := "java/lang/Integer", name := "valueOf", desc := "(I)Ljava/lang/Integer;" } : Jvm.MethodName)) ∈ tables_1 := List.mem_of_getElem? (i := 42) rfl
theorem tw45 : (Jvm.Cond.code ({ cls := "java/lang/Integer", name := "valueOf", desc := "(I)Ljava/lang/Integer;" } : Jvm.MethodName) jdk_33_method_22_code (1 : Nat) (Option.some (Jvm.ClassFile.FieldType.object "java/lang/Integer"))) ∈ tables_1 := List.mem_of_getElem? (i := 45) rfl
theorem pd15 : parseMethodDescriptor "(I)Ljava/lang/Integer;" = some ⟨[.int], some (.object "java/lang/Integer")⟩ := by decide +kernel
theorem tw43 : (Jvm.Cond.static ({ cls := "java/lang/Integer", name := "valueOf", desc := "(I)Ljava/lang/Integer;" } : Jvm.MethodName)) ∈ tables_1 := List.mem_of_getElem? (i := 43) rfl
theorem tw105 : (Jvm.Cond.methodLink "com/example/graphweave/graphweave/json/JsonObjectClearPinLaw" (25 : Nat) ({ cls := "com/example/graphweave/graphweave/json/JsonObject", name := "clear", desc := "()V" } : Jvm.MethodName)) ∈ tables_1 := List.mem_of_getElem? (i := 105) rfl
theorem tw109 : (Jvm.Cond.code ({ cls := "com/example/graphweave/graphweave/json/JsonObject", name := "clear", desc := "()V" } : Jvm.MethodName) prog_14_method_7_code (1 : Nat) (Option.none : Option Jvm.ClassFile.FieldType)) ∈ tables_1 := List.mem_of_getElem? (i := 109) rfl
theorem tw108 : (Jvm.Cond.selects "com/example/graphweave/graphweave/json/JsonObject" ({ cls := "com/example/graphweave/graphweave/json/JsonObject", name := "clear", desc := "()V" } : Jvm.MethodName) ({ cls := "com/example/graphweave/graphweave/json/JsonObject", name := "clear", desc := "()V" } : Jvm.MethodName)) ∈ tables_1 := List.mem_of_getElem? (i := 108) rfl
theorem tw106 : (Jvm.Cond.declares ({ cls := "com/example/graphweave/graphweave/json/JsonObject", name := "clear", desc := "()V" } : Jvm.MethodName)) ∈ tables_1 := List.mem_of_getElem? (i := 106) rfl
theorem tw107 : (Jvm.Cond.instanceMethod ({ cls := "com/example/graphweave/graphweave/json/JsonObject", name := "clear", desc := "()V" } : Jvm.MethodName)) ∈ tables_1 := List.mem_of_getElem? (i := 107) rfl
theorem tw116 : (Jvm.Cond.methodLink "com/example/graphweave/graphweave/json/JsonObjectClearPinLaw" (28 : Nat) ({ cls := "com/example/graphweave/graphweave/json/JsonObject", name := "size", desc := "()I" } : Jvm.MethodName)) ∈ tables_1 := List.mem_of_getElem? (i := 116) rfl
theorem tw120 : (Jvm.Cond.code ({ cls := "com/example/graphweave/graphweave/json/JsonObject", name := "size", desc := "()I" } : Jvm.MethodName) prog_14_method_2_code (1 : Nat) (Option.some Jvm.ClassFile.FieldType.int)) ∈ tables_1 := List.mem_of_getElem? (i := 120) rfl
theorem pd16 : parseMethodDescriptor "()I" = some ⟨[], some .int⟩ := by decide +kernel
theorem tw119 : (Jvm.Cond.selects "com/example/graphweave/graphweave/json/JsonObject" ({ cls := "com/example/graphweave/graphweave/json/JsonObject", name := "size", desc := "()I" } : Jvm.MethodName) ({ cls := "com/example/graphweave/graphweave/json/JsonObject", name := "size", desc := "()I" } : Jvm.MethodName)) ∈ tables_1 := List.mem_of_getElem? (i := 119) rfl
theorem tw117 : (Jvm.Cond.declares ({ cls := "com/example/graphweave/graphweave/json/JsonObject", name := "size", desc := "()I" } : Jvm.MethodName)) ∈ tables_1 := List.mem_of_getElem? (i := 117) rfl
theorem tw118 : (Jvm.Cond.instanceMethod ({ cls := "com/example/graphweave/graphweave/json/JsonObject", name := "size", desc := "()I" } : Jvm.MethodName)) ∈ tables_1 := List.mem_of_getElem? (i := 118) rfl
theorem tw121 : (Jvm.Cond.methodLink "com/example/graphweave/graphweave/json/JsonObjectClearPinLaw" (32 : Nat) ({ cls := "com/example/graphweave/graphweave/json/JsonObject", name := "containsKey", desc := "(Ljava/lang/Object;)Z" } : Jvm.MethodName)) ∈ tables_1 := List.mem_of_getElem? (i := 121) rfl
theorem tw125 : (Jvm.Cond.code ({ cls := "com/example/graphweave/graphweave/json/JsonObject", name := "containsKey", desc := "(Ljava/lang/Object;)Z" } : Jvm.MethodName) prog_14_method_3_code (2 : Nat) (Option.some Jvm.ClassFile.FieldType.boolean)) ∈ tables_1 := List.mem_of_getElem? (i := 125) rfl
theorem tw124 : (Jvm.Cond.selects "com/example/graphweave/graphweave/json/JsonObject" ({ cls := "com/example/graphweave/graphweave/json/JsonObject", name := "containsKey", desc := "(Ljava/lang/Object;)Z" } : Jvm.MethodName) ({ cls := "com/example/graphweave/graphweave/json/JsonObject", name := "containsKey", desc := "(Ljava/lang/Object;)Z" } : Jvm.MethodName)) ∈ tables_1 := List.mem_of_getElem? (i := 124) rfl
theorem tw122 : (Jvm.Cond.declares ({ cls := "com/example/graphweave/graphweave/json/JsonObject", name := "containsKey", desc := "(Ljava/lang/Object;)Z" } : Jvm.MethodName)) ∈ tables_1 := List.mem_of_getElem? (i := 122) rfl
theorem tw123 : (Jvm.Cond.instanceMethod ({ cls := "com/example/graphweave/graphweave/json/JsonObject", name := "containsKey", desc := "(Ljava/lang/Object;)Z" } : Jvm.MethodName)) ∈ tables_1 := List.mem_of_getElem? (i := 123) rfl
theorem tw126 : (Jvm.Cond.methodLink "com/example/graphweave/graphweave/json/JsonObjectClearPinLaw" (36 : Nat) ({ cls := "com/example/graphweave/graphweave/json/JsonObject", name := "get", desc := "(Ljava/lang/Object;)Ljava/lang/Object;" } : Jvm.MethodName)) ∈ tables_1 := List.mem_of_getElem? (i := 126) rfl
theorem tw130 : (Jvm.Cond.code ({ cls := "com/example/graphweave/graphweave/json/JsonObject", name := "get", desc := "(Ljava/lang/Object;)Ljava/lang/Object;" } : Jvm.MethodName) prog_14_method_4_code (3 : Nat) (Option.some (Jvm.ClassFile.FieldType.object "java/lang/Object"))) ∈ tables_1 := List.mem_of_getElem? (i := 130) rfl
theorem pd17 : parseMethodDescriptor "(Ljava/lang/Object;)Ljava/lang/Object;" = some ⟨[(.object "java/lang/Object")], some (.object "java/lang/Object")⟩ := by decide +kernel
theorem tw129 : (Jvm.Cond.selects "com/example/graphweave/graphweave/json/JsonObject" ({ cls := "com/example/graphweave/graphweave/json/JsonObject", name := "get", desc := "(Ljava/lang/Object;)Ljava/lang/Object;" } : Jvm.MethodName) ({ cls := "com/example/graphweave/graphweave/json/JsonObject", name := "get", desc := "(Ljava/lang/Object;)Ljava/lang/Object;" } : Jvm.MethodName)) ∈ tables_1 := List.mem_of_getElem? (i := 129) rfl
theorem tw127 : (Jvm.Cond.declares ({ cls := "com/example/graphweave/graphweave/json/JsonObject", name := "get", desc := "(Ljava/lang/Object;)Ljava/lang/Object;" } : Jvm.MethodName)) ∈ tables_1 := List.mem_of_getElem? (i := 127) rfl
theorem tw128 : (Jvm.Cond.instanceMethod ({ cls := "com/example/graphweave/graphweave/json/JsonObject", name := "get", desc := "(Ljava/lang/Object;)Ljava/lang/Object;" } : Jvm.MethodName)) ∈ tables_1 := List.mem_of_getElem? (i := 128) rfl
theorem tw49 : (Jvm.Cond.methodLink "com/example/graphweave/graphweave/json/JsonObjectClearPinLaw" (21 : Nat) ({ cls := "com/example/graphweave/graphweave/json/JsonObject", name := "put", desc := "(Ljava/lang/String;Ljava/lang/Object;)Ljava/lang/Object;" } : Jvm.MethodName)) ∈ tables_1 := List.mem_of_getElem? (i := 49) rfl
theorem tw53 : (Jvm.Cond.code ({ cls := "com/example/graphweave/graphweave/json/JsonObject", name := "put", desc := "(Ljava/lang/String;Ljava/lang/Object;)Ljava/lang/Object;" } : Jvm.MethodName) prog_14_method_5_code (5 : Nat) (Option.some (Jvm.ClassFile.FieldType.object "java/lang/Object"))) ∈ tables_1 := List.mem_of_getElem? (i := 53) rfl
theorem pd18 : parseMethodDescriptor "(Ljava/lang/String;Ljava/lang/Object;)Ljava/lang/Object;" = some ⟨[(.object "java/lang/String"), (.object "java/lang/Object")], some (.object "java/lang/Object")⟩ := by decide +kernel
theorem tw52 : (Jvm.Cond.selects "com/example/graphweave/graphweave/json/JsonObject" ({ cls := "com/example/graphweave/graphweave/json/JsonObject", name := "put", desc := "(Ljava/lang/String;Ljava/lang/Object;)Ljava/lang/Object;" } : Jvm.MethodName) ({ cls := "com/example/graphweave/graphweave/json/JsonObject", name := "put", desc := "(Ljava/lang/String;Ljava/lang/Object;)Ljava/lang/Object;" } : Jvm.MethodName)) ∈ tables_1 := List.mem_of_getElem? (i := 52) rfl
theorem tw50 : (Jvm.Cond.declares ({ cls := "com/example/graphweave/graphweave/json/JsonObject", name := "put", desc := "(Ljava/lang/String;Ljava/lang/Object;)Ljava/lang/Object;" } : Jvm.MethodName)) ∈ tables_1 := List.mem_of_getElem? (i := 50) rfl
theorem tw51 : (Jvm.Cond.instanceMethod ({ cls := "com/example/graphweave/graphweave/json/JsonObject", name := "put", desc := "(Ljava/lang/String;Ljava/lang/Object;)Ljava/lang/Object;" } : Jvm.MethodName)) ∈ tables_1 := List.mem_of_getElem? (i := 51) rfl
theorem ef0 (m : MethodId) (x0 : Int32) (x1 : Int32) (x2 : Int32) (x3 : Int32) : entryFrame m #[(.int x0), (.int x1), (.int x2), (.int x3)] maxLocals = mkF m 0 #[.val (.int x0), .val (.int x1), .val (.int x2), .val (.int x3), .unset, .unset, .unset, .unset, .unset, .unset, .unset, .unset] [] := by first | (simp [entryFrame, mkF, argsToLocals, Value.category, maxLocals]; done) | rfl
def Q0 (Z : State) (p0 : Int32) (p1 : Int32) (p2 : Int32) (p3 : Int32) (wn : Addr) (kn : ClassId) (wm : Addr) (wcs : Int32) (wc : Addr) (clc : Cell) (h0 : Heap) (n0 : Nat) (v : Option Value) (h : Heap) (L : List Loc) : Prop := v = some (.int 1) ∧ Fr n0 L ∧ Keep h0 h []
theorem pn371 : plainName "com/example/graphweave/graphweave/json/JsonObjectClearPinLaw" = true := by first | (simp [plainName, overriddenIn]; done) | decide +kernel
theorem rm0 (l : Launch) (Z : State) (a0 : Array Value) (hw : ∀ d ∈ tables_1, d.before a0 Z = true) (ws : List Jvm.Cond) (p0 : Int32) (p1 : Int32) (p2 : Int32) (p3 : Int32) (wn : Addr) (kn : ClassId) (wm : Addr) (wcs : Int32) (wc : Addr) (clc : Cell) (h0 : Heap) (n0 : Nat) (Z0 : n0 ≤ h0.size) (O0 : Old Z n0 h0) (S_NM : Sta Z Z.heap sq0 "NO_MEMBERS" sq3 (.ref wn)) (E_wn : Exa Z Z.heap wn sq3) (V_wn : Arv Z Z.heap wn kn (.object sq1) (0 : Int32) [] .null) (M_AO : MirM Z sq3 wm) (S_CS : Sta Z Z.heap sq2 "COMPACT_STRINGS" "Z" (.int wcs)) (hcs : ¬ (wcs = (0 : Int32))) (S_HI : Sta Z Z.heap "java/lang/Integer$IntegerCache" "high" "I" (.int 127)) (S_CA : Sta Z Z.heap "java/lang/Integer$IntegerCache" "cache" "[Ljava/lang/Integer;" (.ref wc)) (A_CA : Arr Z Z.heap wc clc (.object "java/lang/Integer")) (hcache : ∀ j : Int32, (0 ≤ j.toInt ∧ j.toInt < 256) → ∃ a : Addr, ¬ (j < 0 ∨ clc.slots.size ≤ j.toNatClampNeg) ∧ clc.slots[j.toNatClampNeg]? = some (.ref a) ∧ Exa Z Z.heap a "java/lang/Integer") :
    MetW l Z ws x code maxLocals ret room_1 #[(.int p0), (.int p1), (.int p2), (.int p3)] h0 (Q0 Z p0 p1 p2 p3 wn kn wm wcs wc clc h0 n0) := by
  refine MetW.enter (L0 := #[.val (.int p0), .val (.int p1), .val (.int p2), .val (.int p3), .unset, .unset, .unset, .unset, .unset, .unset, .unset, .unset]) (plainFor_of_name pn371) (fun m => ef0 m p0 p1 p2 p3) ?_
  intro p e s m below meth c s₁ hx hby hml hown hnm hret hlk hZ X0 e0
  have N0 := Fr.nil n0
  have K0 : Keep h0 h0 [] := Keep.refl h0 _
  have hSi : s.Since s.vm 0 := (State.WarmedH.refl s).since 0
  have wS : ∀ a ∈ Bundle.stringAtoms, a.before a0 Z = true := own_wS hw
  obtain ⟨T10, h10, X10, e10, E10, A10, D10, -, st10⟩ := newO X0 hx hZ hown (hw _ tw0) (hw _ tw1) (hw _ tw2) e0 (g := (mkF m 0 #[.val (.int p0), .val (.int p1), .val (.int p2), .val (.int p3), .unset, .unset, .unset, .unset, .unset, .unset, .unset, .unset] [])) rfl (hb hby at_0) (by decide) (by decide)
  obtain ⟨b10, g10⟩ : ∃ z, z = h0.size := ⟨_, rfl⟩
  rw [← g10] at A10 D10 st10
  have lb11 : h0.size ≤ b10 := Nat.le_of_eq g10.symm
  have sz12 : h0.size ≤ b10 := Nat.le_trans K0.1 lb11
  have g13 : n0 ≤ b10 := Nat.le_trans Z0 sz12
  have K14 := K0.ext E10
  have O15 := O0.ext E10
  have F16 : Fld Z h10 b10 sq0 "members" sq3 .null := D10 (Or.inl (hw _ tw17)) (ty := (.array (.object sq1))) (by decide)
  have F17 : Fld Z h10 b10 sq0 "index" "[I" .null := D10 (Or.inl (hw _ tw67)) (ty := (.array .int)) (by decide)
  have F18 : Fld Z h10 b10 sq0 "size" "I" (.int 0) := D10 (Or.inl (hw _ tw69)) (ty := .int) (by decide)
  have F19 : Fld Z h10 b10 sq0 "changes" "I" (.int 0) := D10 (Or.inl (hw _ tw104)) (ty := .int) (by decide)
  refine GoW.st st10 ?_
  show GoW _ _ _ _ _ _ _ (T10.setTop (mkF m 3 _ [(.ref b10)]))
  refine GoW.st (t' := T10.setTop (mkF m 4 #[.val (.int p0), .val (.int p1), .val (.int p2), .val (.int p3), .unset, .unset, .unset, .unset, .unset, .unset, .unset, .unset] [(.ref b10), (.ref b10)])) (fun target kt => ?_) ?_
  · refine XS.dup X10.here hx rfl (hb hby at_3) rfl rfl ?_
    exact kt
  obtain ⟨_, _, ⟨T20, L20, k20, n20⟩, -, X20, ⟨Lc20, hQ20, l20, y20, z20⟩, st20⟩ := X10.specialBack hx (y := (⟨sq0, "<init>", "()V"⟩ : MethodName)) rfl hown (mvT hZ (hw _ tw3)) (mvT hZ (hw _ tw4)) (mvT hZ (hw _ tw5)) (by decide) (backOf (W := 1) (rm1 l Z a0 hw [] b10 wn kn h10 n0 (Nat.le_trans Z0 K14.1) O15 S_NM E_wn V_wn A10 g13 F16 F17 F18 F19) hZ (hw _ tw5) (hw _ tw2) (by decide) (by decide)) (g := (mkF m 4 #[.val (.int p0), .val (.int p1), .val (.int p2), .val (.int p3), .unset, .unset, .unset, .unset, .unset, .unset, .unset, .unset] [(.ref b10), (.ref b10)])) rfl (by rw [hml]; rfl) (Steps.refl _) (a := b10) (argsL := []) (rest := [(.ref b10)]) (lenOf pd0 rfl) rfl (by show 2 * 0 + _ ≤ _; exact Nat.le_of_eq rfl) (hb hby at_4) (fun _ _ => ⟨rfl, e10, (by decide : 1 + 0 ≤ _), (by decide : 6 + 0 ≤ _)⟩)
  dsimp only [Pt.U, Pt.locs, Pt.cells, Pt.slots] at X20 l20 y20 z20 st20 hQ20
  subst l20 y20 z20
  obtain ⟨rfl, Nq20, Kq20, q21, q22, q23, q24, q25⟩ := hQ20
  have N20 := Fr.app N0 Nq20
  have K26 := K14.trans Kq20 (allS (Or.inr sz12) all0)
  have O27 := O15.keep Kq20 (allS g13 all0)
  refine GoW.by st20 ?_
  show GoW _ _ _ _ _ _ _ (T20.setTop (mkF m 7 _ [(.ref b10)]))
  refine GoW.st (t' := T20.setTop (mkF m 15 #[.val (.int p0), .val (.int p1), .val (.int p2), .val (.int p3), .val (.ref b10), .unset, .unset, .unset, .unset, .unset, .unset, .unset] [(.int ((p0 &&& (255 : Int32)).toUInt32.toUInt16.toUInt32.toInt32))])) (fun target kt => ?_) ?_
  · refine XS.astore X20.here hx rfl (hb hby at_7) rfl rfl (l' := #[.val (.int p0), .val (.int p1), .val (.int p2), .val (.int p3), .val (.ref b10), .unset, .unset, .unset, .unset, .unset, .unset, .unset]) rfl ?_
    refine XS.iloadN X20.here hx rfl (hb hby at_9) rfl ?_
    refine XS.sipush X20.here hx rfl (hb hby at_10) ?_
    refine XS.iand X20.here hx rfl (hb hby at_13) rfl ?_
    refine XS.i2c X20.here hx rfl (hb hby at_14) rfl ?_
    exact kt
  obtain ⟨_, _, ⟨T28, L28, k28, n28⟩, -, X28, ⟨Lc28, hQ28, l28, y28, z28⟩, st28⟩ := Jvm.LawKit.callS X20 hx (y := (⟨sq2, "valueOf", "(C)Ljava/lang/String;"⟩ : MethodName)) hown (mvT hZ (hw _ tw18)) (mvT hZ (hw _ tw19)) (mvT hZ (hw _ tw20)) (mvT hZ (hw _ tw21)) (by decide) (backOf (W := 0) (rm4 l Z a0 hw [] ((p0 &&& (255 : Int32)).toUInt32.toUInt16.toUInt32.toInt32) wcs T20.heap n0 (Nat.le_trans Z0 K26.1) O27 S_CS hcs (own_c255 p0)) hZ (hw _ tw21) (hw _ tw20) (by decide) (by decide)) (g := (mkF m 15 #[.val (.int p0), .val (.int p1), .val (.int p2), .val (.int p3), .val (.ref b10), .unset, .unset, .unset, .unset, .unset, .unset, .unset] [(.int ((p0 &&& (255 : Int32)).toUInt32.toUInt16.toUInt32.toInt32))])) rfl (by rw [hml]; rfl) (argsL := [(.int ((p0 &&& (255 : Int32)).toUInt32.toUInt16.toUInt32.toInt32))]) (rest := []) (lenOf pd14 rfl) rfl (by show 2 * 0 + _ ≤ _; exact Nat.le_of_eq rfl) (hb hby at_15) (fun _ _ => ⟨rfl, rfl, (by decide : 1 + 2 ≤ _), (by decide : 6 + 5 ≤ _)⟩)
  dsimp only [Pt.U, Pt.locs, Pt.cells, Pt.slots] at X28 l28 y28 z28 st28 hQ28
  subst l28 y28 z28
  obtain ⟨b29, b30, k31, i32, rfl, Nq28, Kq28, q33, q34, q35, q36, q37, q38⟩ := hQ28
  have N28 := Fr.app N20 Nq28
  have sz39 : h0.size ≤ b29 := Nat.le_trans K26.1 q33
  have g40 : n0 ≤ b29 := Nat.le_trans Z0 sz39
  have sz41 : h0.size ≤ b30 := Nat.le_trans K26.1 q34
  have g42 : n0 ≤ b30 := Nat.le_trans Z0 sz41
  have K43 := K26.trans Kq28 all0
  have O44 := O27.keep Kq28 all0
  refine GoW.st st28 ?_
  show GoW _ _ _ _ _ _ _ (T28.setTop (mkF m 18 _ [(.ref b29)]))
  refine GoW.st (t' := T28.setTop (mkF m 26 #[.val (.int p0), .val (.int p1), .val (.int p2), .val (.int p3), .val (.ref b10), .val (.ref b29), .unset, .unset, .unset, .unset, .unset, .unset] [(.int ((p1 &&& (255 : Int32)).toUInt32.toUInt16.toUInt32.toInt32))])) (fun target kt => ?_) ?_
  · refine XS.astore X28.here hx rfl (hb hby at_18) rfl rfl (l' := #[.val (.int p0), .val (.int p1), .val (.int p2), .val (.int p3), .val (.ref b10), .val (.ref b29), .unset, .unset, .unset, .unset, .unset, .unset]) rfl ?_
    refine XS.iloadN X28.here hx rfl (hb hby at_20) rfl ?_
    refine XS.sipush X28.here hx rfl (hb hby at_21) ?_
    refine XS.iand X28.here hx rfl (hb hby at_24) rfl ?_
    refine XS.i2c X28.here hx rfl (hb hby at_25) rfl ?_
    exact kt
  obtain ⟨_, _, ⟨T45, L45, k45, n45⟩, -, X45, ⟨Lc45, hQ45, l45, y45, z45⟩, st45⟩ := Jvm.LawKit.callS X28 hx (y := (⟨sq2, "valueOf", "(C)Ljava/lang/String;"⟩ : MethodName)) hown (mvT hZ (hw _ tw18)) (mvT hZ (hw _ tw19)) (mvT hZ (hw _ tw20)) (mvT hZ (hw _ tw21)) (by decide) (backOf (W := 0) (rm4 l Z a0 hw [] ((p1 &&& (255 : Int32)).toUInt32.toUInt16.toUInt32.toInt32) wcs T28.heap n0 (Nat.le_trans Z0 K43.1) O44 S_CS hcs (own_c255 p1)) hZ (hw _ tw21) (hw _ tw20) (by decide) (by decide)) (g := (mkF m 26 #[.val (.int p0), .val (.int p1), .val (.int p2), .val (.int p3), .val (.ref b10), .val (.ref b29), .unset, .unset, .unset, .unset, .unset, .unset] [(.int ((p1 &&& (255 : Int32)).toUInt32.toUInt16.toUInt32.toInt32))])) rfl (by rw [hml]; rfl) (argsL := [(.int ((p1 &&& (255 : Int32)).toUInt32.toUInt16.toUInt32.toInt32))]) (rest := []) (lenOf pd14 rfl) rfl (by show 2 * 0 + _ ≤ _; exact Nat.le_of_eq rfl) (hb hby at_26) (fun _ _ => ⟨rfl, rfl, (by decide : 3 + 2 ≤ _), (by decide : 11 + 5 ≤ _)⟩)
  dsimp only [Pt.U, Pt.locs, Pt.cells, Pt.slots] at X45 l45 y45 z45 st45 hQ45
  subst l45 y45 z45
  obtain ⟨b46, b47, k48, i49, rfl, Nq45, Kq45, q50, q51, q52, q53, q54, q55⟩ := hQ45
  have N45 := Fr.app N28 Nq45
  have sz56 : h0.size ≤ b46 := Nat.le_trans K43.1 q50
  have g57 : n0 ≤ b46 := Nat.le_trans Z0 sz56
  have sz58 : h0.size ≤ b47 := Nat.le_trans K43.1 q51
  have g59 : n0 ≤ b47 := Nat.le_trans Z0 sz58
  have K60 := K43.trans Kq45 all0
  have O61 := O44.keep Kq45 all0
  refine GoW.st st45 ?_
  show GoW _ _ _ _ _ _ _ (T45.setTop (mkF m 29 _ [(.ref b46)]))
  refine GoW.st (t' := T45.setTop (mkF m 37 #[.val (.int p0), .val (.int p1), .val (.int p2), .val (.int p3), .val (.ref b10), .val (.ref b29), .val (.ref b46), .unset, .unset, .unset, .unset, .unset] [(.int ((p2 &&& (255 : Int32)).toUInt32.toUInt16.toUInt32.toInt32))])) (fun target kt => ?_) ?_
  · refine XS.astore X45.here hx rfl (hb hby at_29) rfl rfl (l' := #[.val (.int p0), .val (.int p1), .val (.int p2), .val (.int p3), .val (.ref b10), .val (.ref b29), .val (.ref b46), .unset, .unset, .unset, .unset, .unset]) rfl ?_
    refine XS.iloadN X45.here hx rfl (hb hby at_31) rfl ?_
    refine XS.sipush X45.here hx rfl (hb hby at_32) ?_
    refine XS.iand X45.here hx rfl (hb hby at_35) rfl ?_
    refine XS.i2c X45.here hx rfl (hb hby at_36) rfl ?_
    exact kt
  obtain ⟨_, _, ⟨T62, L62, k62, n62⟩, -, X62, ⟨Lc62, hQ62, l62, y62, z62⟩, st62⟩ := Jvm.LawKit.callS X45 hx (y := (⟨sq2, "valueOf", "(C)Ljava/lang/String;"⟩ : MethodName)) hown (mvT hZ (hw _ tw18)) (mvT hZ (hw _ tw19)) (mvT hZ (hw _ tw20)) (mvT hZ (hw _ tw21)) (by decide) (backOf (W := 0) (rm4 l Z a0 hw [] ((p2 &&& (255 : Int32)).toUInt32.toUInt16.toUInt32.toInt32) wcs T45.heap n0 (Nat.le_trans Z0 K60.1) O61 S_CS hcs (own_c255 p2)) hZ (hw _ tw21) (hw _ tw20) (by decide) (by decide)) (g := (mkF m 37 #[.val (.int p0), .val (.int p1), .val (.int p2), .val (.int p3), .val (.ref b10), .val (.ref b29), .val (.ref b46), .unset, .unset, .unset, .unset, .unset] [(.int ((p2 &&& (255 : Int32)).toUInt32.toUInt16.toUInt32.toInt32))])) rfl (by rw [hml]; rfl) (argsL := [(.int ((p2 &&& (255 : Int32)).toUInt32.toUInt16.toUInt32.toInt32))]) (rest := []) (lenOf pd14 rfl) rfl (by show 2 * 0 + _ ≤ _; exact Nat.le_of_eq rfl) (hb hby at_37) (fun _ _ => ⟨rfl, rfl, (by decide : 5 + 2 ≤ _), (by decide : 16 + 5 ≤ _)⟩)
  dsimp only [Pt.U, Pt.locs, Pt.cells, Pt.slots] at X62 l62 y62 z62 st62 hQ62
  subst l62 y62 z62
  obtain ⟨b63, b64, k65, i66, rfl, Nq62, Kq62, q67, q68, q69, q70, q71, q72⟩ := hQ62
  have N62 := Fr.app N45 Nq62
  have sz73 : h0.size ≤ b63 := Nat.le_trans K60.1 q67
  have g74 : n0 ≤ b63 := Nat.le_trans Z0 sz73
  have sz75 : h0.size ≤ b64 := Nat.le_trans K60.1 q68
  have g76 : n0 ≤ b64 := Nat.le_trans Z0 sz75
  have K77 := K60.trans Kq62 all0
  have O78 := O61.keep Kq62 all0
  refine GoW.st st62 ?_
  show GoW _ _ _ _ _ _ _ (T62.setTop (mkF m 40 _ [(.ref b63)]))
  refine GoW.st (t' := T62.setTop (mkF m 43 #[.val (.int p0), .val (.int p1), .val (.int p2), .val (.int p3), .val (.ref b10), .val (.ref b29), .val (.ref b46), .val (.ref b63), .unset, .unset, .unset, .unset] [(.int p2)])) (fun target kt => ?_) ?_
  · refine XS.astore X62.here hx rfl (hb hby at_40) rfl rfl (l' := #[.val (.int p0), .val (.int p1), .val (.int p2), .val (.int p3), .val (.ref b10), .val (.ref b29), .val (.ref b46), .val (.ref b63), .unset, .unset, .unset, .unset]) rfl ?_
    refine XS.iloadN X62.here hx rfl (hb hby at_42) rfl ?_
    exact kt
  obtain ⟨_, _, ⟨T79, L79, k79, n79⟩, -, X79, ⟨Lc79, hQ79, l79, y79, z79⟩, st79⟩ := Jvm.LawKit.callS X62 hx (y := (⟨"java/lang/Integer", "valueOf", "(I)Ljava/lang/Integer;"⟩ : MethodName)) hown (mvT hZ (hw _ tw42)) (mvT hZ (hw _ tw43)) (mvT hZ (hw _ tw44)) (mvT hZ (hw _ tw45)) (by decide) (backOf (W := 0) (rm8 l Z a0 hw [] p2 wc clc T62.heap n0 (Nat.le_trans Z0 K77.1) O78 S_HI S_CA A_CA hcache ) hZ (hw _ tw45) (hw _ tw44) (by decide) (by decide)) (g := (mkF m 43 #[.val (.int p0), .val (.int p1), .val (.int p2), .val (.int p3), .val (.ref b10), .val (.ref b29), .val (.ref b46), .val (.ref b63), .unset, .unset, .unset, .unset] [(.int p2)])) rfl (by rw [hml]; rfl) (argsL := [(.int p2)]) (rest := []) (lenOf pd15 rfl) rfl (by show 2 * 0 + _ ≤ _; exact Nat.le_of_eq rfl) (hb hby at_43) (fun _ _ => ⟨rfl, rfl, (by decide : 7 + 1 ≤ _), (by decide : 21 + 1 ≤ _)⟩)
  dsimp only [Pt.U, Pt.locs, Pt.cells, Pt.slots] at X79 l79 y79 z79 st79 hQ79
  subst l79 y79 z79
  obtain ⟨b80, rfl, Nq79, Kq79, q81⟩ := hQ79
  have N79 := Fr.app N62 Nq79
  have K82 := K77.trans Kq79 all0
  have O83 := O78.keep Kq79 all0
  refine GoW.st st79 ?_
  show GoW _ _ _ _ _ _ _ (T79.setTop (mkF m 46 _ [(.ref b80)]))
  refine GoW.st (t' := T79.setTop (mkF m 51 #[.val (.int p0), .val (.int p1), .val (.int p2), .val (.int p3), .val (.ref b10), .val (.ref b29), .val (.ref b46), .val (.ref b63), .val (.ref b80), .unset, .unset, .unset] [(.int (p3 &&& (3 : Int32)))])) (fun target kt => ?_) ?_
  · refine XS.astore X79.here hx rfl (hb hby at_46) rfl rfl (l' := #[.val (.int p0), .val (.int p1), .val (.int p2), .val (.int p3), .val (.ref b10), .val (.ref b29), .val (.ref b46), .val (.ref b63), .val (.ref b80), .unset, .unset, .unset]) rfl ?_
    refine XS.iloadN X79.here hx rfl (hb hby at_48) rfl ?_
    refine XS.iconst X79.here hx rfl (hb hby at_49) ?_
    refine XS.iand X79.here hx rfl (hb hby at_50) rfl ?_
    exact kt
  rcases (own_and3 p3 : (p3 &&& (3 : Int32)) = (0 : Int32) ∨ (p3 &&& (3 : Int32)) = (1 : Int32) ∨ (p3 &&& (3 : Int32)) = (2 : Int32) ∨ (p3 &&& (3 : Int32)) = (3 : Int32)) with hk | hk | hk | hk
  · have hk_ := hk
    rw [hk]
    show GoW _ _ _ _ _ _ _ (T79.setTop (mkF m 51 _ [(.int 0)]))
    refine GoW.st (t' := T79.setTop (mkF m 104 #[.val (.int p0), .val (.int p1), .val (.int p2), .val (.int p3), .val (.ref b10), .val (.ref b29), .val (.ref b46), .val (.ref b63), .val (.ref b80), .val (.int 0), .unset, .unset] [(.ref b10)])) (fun target kt => ?_) ?_
    · refine XS.istore X79.here hx rfl (hb hby at_51) rfl (l' := #[.val (.int p0), .val (.int p1), .val (.int p2), .val (.int p3), .val (.ref b10), .val (.ref b29), .val (.ref b46), .val (.ref b63), .val (.ref b80), .val (.int 0), .unset, .unset]) rfl ?_
      refine XS.iload X79.here hx rfl (hb hby at_53) rfl ?_
      refine XS.iconst X79.here hx rfl (hb hby at_55) ?_
      refine XS.icmpYes X79.here hx rfl (pc0 := 56) (pc' := 71) rfl (hb hby at_56) rfl (tlt (by decide : (0 : Int32) < (1 : Int32))).1 (by decide) (by decide) ?_
      refine XS.iload X79.here hx rfl (hb hby at_71) rfl ?_
      refine XS.iconst X79.here hx rfl (hb hby at_73) ?_
      refine XS.icmpYes X79.here hx rfl (pc0 := 74) (pc' := 87) rfl (hb hby at_74) rfl (tlt (by decide : (0 : Int32) < (2 : Int32))).1 (by decide) (by decide) ?_
      refine XS.iload X79.here hx rfl (hb hby at_87) rfl ?_
      refine XS.iconst X79.here hx rfl (hb hby at_89) ?_
      refine XS.icmpYes X79.here hx rfl (pc0 := 90) (pc' := 102) rfl (hb hby at_90) rfl (tlt (by decide : (0 : Int32) < (3 : Int32))).1 (by decide) (by decide) ?_
      refine XS.aload X79.here hx rfl (hb hby at_102) rfl rfl ?_
      exact kt
    have c84 := (((q21.keep Kq28).keep Kq45).keep Kq62).keep Kq79
    have c85 := (((q22.keep Kq28 nin0).keep Kq45 nin0).keep Kq62 nin0).keep Kq79 nin0
    have c86 := (((q23.keep Kq28 nin0).keep Kq45 nin0).keep Kq62 nin0).keep Kq79 nin0
    have c87 := (((q24.keep Kq28 nin0).keep Kq45 nin0).keep Kq62 nin0).keep Kq79 nin0
    have c88 := (((q25.keep Kq28 nin0).keep Kq45 nin0).keep Kq62 nin0).keep Kq79 nin0
    obtain ⟨cq89, kq89, q89a, q89b, q89c⟩ := isOf hZ rfl c84
    obtain ⟨_, _, ⟨T89, L89, k89, n89⟩, -, X89, ⟨Lc89, hQ89, l89, y89, z89⟩, st89⟩ := X79.virtualBack hx (y := (⟨sq0, "clear", "()V"⟩ : MethodName)) (z := (⟨sq0, "clear", "()V"⟩ : MethodName)) hown (mvT hZ (hw _ tw105)) (mvT hZ (hw _ tw106)) (notFace_of_selects (args := #[]) (mvT hZ (hw _ tw108))) (mvT hZ (hw _ tw108)) (mvT hZ (hw _ tw107)) (by decide) (backOf (W := 0) (rm17_0_0 l Z a0 hw [] b10 wn kn (0 : Int32) T79.heap n0 (Nat.le_trans Z0 K82.1) O83 V_wn E_wn c84 c85 c86 c87 c88 g13) hZ (hw _ tw109) (hw _ tw2) (by decide) (by decide)) q89a q89c (g := (mkF m 104 #[.val (.int p0), .val (.int p1), .val (.int p2), .val (.int p3), .val (.ref b10), .val (.ref b29), .val (.ref b46), .val (.ref b63), .val (.ref b80), .val (.int 0), .unset, .unset] [(.ref b10)])) rfl (by rw [hml]; rfl) (Steps.refl _) (argsL := []) (rest := []) (lenOf pd0 rfl) rfl (by show 2 * 0 + _ ≤ _; exact Nat.le_of_eq rfl) (hb hby at_104) (fun _ _ => ⟨rfl, rfl, (by decide : 8 + 0 ≤ _), (by decide : 22 + 0 ≤ _)⟩)
    dsimp only [Pt.U, Pt.locs, Pt.cells, Pt.slots] at X89 l89 y89 z89 st89 hQ89
    subst l89 y89 z89
    obtain ⟨rfl, Nq89, Kq89, q90, q91, q92, q93, q94⟩ := hQ89
    have N89 := Fr.app N79 Nq89
    have K95 := K82.trans Kq89 (allS (Or.inr sz12) all0)
    have O96 := O83.keep Kq89 (allS g13 all0)
    refine GoW.by st89 ?_
    show GoW _ _ _ _ _ _ _ (T89.setTop (mkF m 107 _ []))
    refine GoW.st (t' := T89.setTop (mkF m 109 #[.val (.int p0), .val (.int p1), .val (.int p2), .val (.int p3), .val (.ref b10), .val (.ref b29), .val (.ref b46), .val (.ref b63), .val (.ref b80), .val (.int 0), .unset, .unset] [(.ref b10)])) (fun target kt => ?_) ?_
    · refine XS.aload X89.here hx rfl (hb hby at_107) rfl rfl ?_
      exact kt
    obtain ⟨cq97, kq97, q97a, q97b, q97c⟩ := isOf hZ rfl q90
    obtain ⟨_, _, ⟨T97, L97, k97, n97⟩, -, X97, ⟨Lc97, hQ97, l97, y97, z97⟩, st97⟩ := X89.virtualBack hx (y := (⟨sq0, "size", "()I"⟩ : MethodName)) (z := (⟨sq0, "size", "()I"⟩ : MethodName)) hown (mvT hZ (hw _ tw116)) (mvT hZ (hw _ tw117)) (notFace_of_selects (args := #[]) (mvT hZ (hw _ tw119))) (mvT hZ (hw _ tw119)) (mvT hZ (hw _ tw118)) (by decide) (backOf (W := 0) (rm20 l Z a0 hw [] b10 (0 : Int32) T89.heap n0 (Nat.le_trans Z0 K95.1) O96  q93) hZ (hw _ tw120) (hw _ tw2) (by decide) (by decide)) q97a q97c (g := (mkF m 109 #[.val (.int p0), .val (.int p1), .val (.int p2), .val (.int p3), .val (.ref b10), .val (.ref b29), .val (.ref b46), .val (.ref b63), .val (.ref b80), .val (.int 0), .unset, .unset] [(.ref b10)])) rfl (by rw [hml]; rfl) (Steps.refl _) (argsL := []) (rest := []) (lenOf pd16 rfl) rfl (by show 2 * 0 + _ ≤ _; exact Nat.le_of_eq rfl) (hb hby at_109) (fun _ _ => ⟨rfl, rfl, (by decide : 8 + 0 ≤ _), (by decide : 22 + 0 ≤ _)⟩)
    dsimp only [Pt.U, Pt.locs, Pt.cells, Pt.slots] at X97 l97 y97 z97 st97 hQ97
    subst l97 y97 z97
    obtain ⟨rfl, Nq97, eq97⟩ := hQ97
    have N97 := Fr.app N89 Nq97
    refine GoW.by st97 ?_
    show GoW _ _ _ _ _ _ _ (T97.setTop (mkF m 112 _ [(.int 0)]))
    refine GoW.st (t' := T97.setTop (mkF m 119 #[.val (.int p0), .val (.int p1), .val (.int p2), .val (.int p3), .val (.ref b10), .val (.ref b29), .val (.ref b46), .val (.ref b63), .val (.ref b80), .val (.int 0), .unset, .unset] [(.ref b29), (.ref b10)])) (fun target kt => ?_) ?_
    · refine XS.ifNo X97.here hx rfl (hb hby at_112) rfl ((if0 _ _).trans (teq (by decide : (0 : Int32) = (0 : Int32))).2) ?_
      refine XS.aload X97.here hx rfl (hb hby at_115) rfl rfl ?_
      refine XS.aload X97.here hx rfl (hb hby at_117) rfl rfl ?_
      exact kt
    have c98 := (((q35.keep Kq45).keep Kq62).keep Kq79).keep Kq89
    obtain ⟨cq99, kq99, q99a, q99b, q99c⟩ := isOf hZ eq97 q90
    obtain ⟨_, _, ⟨T99, L99, k99, n99⟩, -, X99, ⟨Lc99, hQ99, l99, y99, z99⟩, st99⟩ := X97.virtualBack hx (y := (⟨sq0, "containsKey", "(Ljava/lang/Object;)Z"⟩ : MethodName)) (z := (⟨sq0, "containsKey", "(Ljava/lang/Object;)Z"⟩ : MethodName)) hown (mvT hZ (hw _ tw121)) (mvT hZ (hw _ tw122)) (notFace_of_selects (args := #[]) (mvT hZ (hw _ tw124))) (mvT hZ (hw _ tw124)) (mvT hZ (hw _ tw123)) (by decide) (backOf (W := 0) (rm21_0 l Z a0 hw [] b10 b29 ((0 : Int32) + (1 : Int32)) wcs wn kn T89.heap n0 (Nat.le_trans Z0 K95.1) O96 S_CS hcs S_NM E_wn V_wn q90 q91 q92 q93 q94 c98) hZ (hw _ tw125) (hw _ tw2) (by decide) (by decide)) q99a q99c (g := (mkF m 119 #[.val (.int p0), .val (.int p1), .val (.int p2), .val (.int p3), .val (.ref b10), .val (.ref b29), .val (.ref b46), .val (.ref b63), .val (.ref b80), .val (.int 0), .unset, .unset] [(.ref b29), (.ref b10)])) rfl (by rw [hml]; rfl) (Steps.refl _) (argsL := [(.ref b29)]) (rest := []) (lenOf pd6 rfl) rfl (by show 2 * 0 + _ ≤ _; exact Nat.le_of_eq rfl) (hb hby at_119) (fun _ _ => ⟨rfl, eq97, (by decide : 8 + 0 ≤ _), (by decide : 22 + 0 ≤ _)⟩)
    dsimp only [Pt.U, Pt.locs, Pt.cells, Pt.slots] at X99 l99 y99 z99 st99 hQ99
    subst l99 y99 z99
    obtain ⟨rfl, Nq99, eq99⟩ := hQ99
    have N99 := Fr.app N97 Nq99
    refine GoW.by st99 ?_
    show GoW _ _ _ _ _ _ _ (T99.setTop (mkF m 122 _ [(.int 0)]))
    refine GoW.st (t' := T99.setTop (mkF m 129 #[.val (.int p0), .val (.int p1), .val (.int p2), .val (.int p3), .val (.ref b10), .val (.ref b29), .val (.ref b46), .val (.ref b63), .val (.ref b80), .val (.int 0), .unset, .unset] [(.ref b46), (.ref b10)])) (fun target kt => ?_) ?_
    · refine XS.ifNo X99.here hx rfl (hb hby at_122) rfl ((if0 _ _).trans (teq (by decide : (0 : Int32) = (0 : Int32))).2) ?_
      refine XS.aload X99.here hx rfl (hb hby at_125) rfl rfl ?_
      refine XS.aload X99.here hx rfl (hb hby at_127) rfl rfl ?_
      exact kt
    have c100 := ((q52.keep Kq62).keep Kq79).keep Kq89
    obtain ⟨cq101, kq101, q101a, q101b, q101c⟩ := isOf hZ eq99 q90
    obtain ⟨_, _, ⟨T101, L101, k101, n101⟩, -, X101, ⟨Lc101, hQ101, l101, y101, z101⟩, st101⟩ := X99.virtualBack hx (y := (⟨sq0, "get", "(Ljava/lang/Object;)Ljava/lang/Object;"⟩ : MethodName)) (z := (⟨sq0, "get", "(Ljava/lang/Object;)Ljava/lang/Object;"⟩ : MethodName)) hown (mvT hZ (hw _ tw126)) (mvT hZ (hw _ tw127)) (notFace_of_selects (args := #[]) (mvT hZ (hw _ tw129))) (mvT hZ (hw _ tw129)) (mvT hZ (hw _ tw128)) (by decide) (backOf (W := 0) (rm22_none_0 l Z a0 hw [] b10 b46 ((0 : Int32) + (1 : Int32)) wcs wn kn T89.heap n0 (Nat.le_trans Z0 K95.1) O96 S_CS hcs S_NM E_wn V_wn q90 q91 q92 q93 q94 c100) hZ (hw _ tw130) (hw _ tw2) (by decide) (by decide)) q101a q101c (g := (mkF m 129 #[.val (.int p0), .val (.int p1), .val (.int p2), .val (.int p3), .val (.ref b10), .val (.ref b29), .val (.ref b46), .val (.ref b63), .val (.ref b80), .val (.int 0), .unset, .unset] [(.ref b46), (.ref b10)])) rfl (by rw [hml]; rfl) (Steps.refl _) (argsL := [(.ref b46)]) (rest := []) (lenOf pd17 rfl) rfl (by show 2 * 0 + _ ≤ _; exact Nat.le_of_eq rfl) (hb hby at_129) (fun _ _ => ⟨rfl, eq99, (by decide : 8 + 0 ≤ _), (by decide : 22 + 0 ≤ _)⟩)
    dsimp only [Pt.U, Pt.locs, Pt.cells, Pt.slots] at X101 l101 y101 z101 st101 hQ101
    subst l101 y101 z101
    obtain ⟨rfl, Nq101, eq101⟩ := hQ101
    have N101 := Fr.app N99 Nq101
    refine GoW.by st101 ?_
    show GoW _ _ _ _ _ _ _ (T101.setTop (mkF m 132 _ [.null]))
    refine GoW.st (t' := T101.setTop (mkF m 148 #[.val (.int p0), .val (.int p1), .val (.int p2), .val (.int p3), .val (.ref b10), .val (.ref b29), .val (.ref b46), .val (.ref b63), .val (.ref b80), .val (.int 0), .val (.int 1), .unset] [(.ref b80), (.ref b46), (.ref b10)])) (fun target kt => ?_) ?_
    · refine XS.ifnonnullNo X101.here hx rfl (hb hby at_132) rfl ?_
      refine XS.iconst X101.here hx rfl (hb hby at_135) ?_
      refine XS.goto X101.here hx rfl (pc0 := 136) (pc' := 140) rfl (hb hby at_136) (by decide) (by decide) ?_
      refine XS.istore X101.here hx rfl (hb hby at_140) rfl (l' := #[.val (.int p0), .val (.int p1), .val (.int p2), .val (.int p3), .val (.ref b10), .val (.ref b29), .val (.ref b46), .val (.ref b63), .val (.ref b80), .val (.int 0), .val (.int 1), .unset]) rfl ?_
      refine XS.aload X101.here hx rfl (hb hby at_142) rfl rfl ?_
      refine XS.aload X101.here hx rfl (hb hby at_144) rfl rfl ?_
      refine XS.aload X101.here hx rfl (hb hby at_146) rfl rfl ?_
      exact kt
    have c102 := q81.keep Kq89
    obtain ⟨cq103, kq103, q103a, q103b, q103c⟩ := isOf hZ eq101 q90
    obtain ⟨_, _, ⟨T103, L103, k103, n103⟩, -, X103, hSn103, hgr103, ⟨Lc103, hQ103, l103, y103, z103⟩, st103⟩ := X101.virtualBackS hx (y := (⟨sq0, "put", sq4⟩ : MethodName)) (z := (⟨sq0, "put", sq4⟩ : MethodName)) hown (mvT hZ (hw _ tw49)) (mvT hZ (hw _ tw50)) (notFace_of_selects (args := #[]) (mvT hZ (hw _ tw52))) (mvT hZ (hw _ tw52)) (mvT hZ (hw _ tw51)) (by decide) (backOfS (s := (s.setVm s.vm)) (W := 0) (rm9_none_0_0_R l Z a0 hw [] b10 b46 b80 ((0 : Int32) + (1 : Int32)) wcs wm wn kn T89.heap n0 (Nat.le_trans Z0 K95.1) O96 S_CS hcs M_AO S_NM E_wn V_wn q90 q91 q92 q93 q94 c100 g13 c102) hZ (hw _ tw53) (hw _ tw2) (by decide) (by decide)) q103a q103c (g := (mkF m 148 #[.val (.int p0), .val (.int p1), .val (.int p2), .val (.int p3), .val (.ref b10), .val (.ref b29), .val (.ref b46), .val (.ref b63), .val (.ref b80), .val (.int 0), .val (.int 1), .unset] [(.ref b80), (.ref b46), (.ref b10)])) rfl (by rw [hml]; rfl) (Steps.refl _) (argsL := [(.ref b46), (.ref b80)]) (rest := []) (lenOf pd18 rfl) rfl (by show 2 * 0 + _ ≤ _; exact Nat.le_of_eq rfl) (hb hby at_148) (fun _ _ => ⟨rfl, eq101, (by decide : 8 + 3 ≤ _), (by decide : 22 + 24 ≤ _)⟩)
    dsimp only [Pt.U, Pt.locs, Pt.cells, Pt.slots] at X103 l103 y103 z103 st103 hQ103 hSn103 hgr103
    subst l103 y103 z103
    have hSi := foldS hSi (by rw [eq101]; exact (Nat.le_trans (Nat.zero_le _) (Nat.le_trans (Nat.le_trans (Nat.le_trans (Nat.le_trans (Nat.le_trans (Nat.le_trans E10.1 Kq20.1) Kq28.1) Kq45.1) Kq62.1) Kq79.1) Kq89.1))) hSn103 hgr103
    have hown : T103.vm.findClass "com/example/graphweave/graphweave/json/JsonObjectClearPinLaw" = some m.cls := by rw [hSn103.1.alike.findClass]; exact hown
    have hZ : Z.Warmed39 T103.vm := State.Warmed39.trans (t := (s.setVm s.vm)) hZ hSn103.1
    have X103 : Stand p l e room_1 (s.setVm T103.vm) m #[(.int p0), (.int p1), (.int p2), (.int p3)] below meth c T103 _ _ _ := X103
    obtain ⟨b104, k105, rfl, Nq103, Kq103, q106, q107, q108, q109, q110, q111, q112, q113, q114⟩ := hQ103
    have N103 := Fr.app N101 Nq103
    have sz115 : h0.size ≤ b104 := Nat.le_trans K95.1 q106
    have g116 : n0 ≤ b104 := Nat.le_trans Z0 sz115
    have K117 := K95.trans Kq103 (allS (Or.inr sz12) all0)
    have O118 := O96.keep Kq103 (allS g13 all0)
    refine GoW.by st103 ?_
    show GoW _ _ _ _ _ _ _ (T103.setTop (mkF m 151 _ [.null]))
    refine GoW.st (t' := T103.setTop (mkF m 165 #[.val (.int p0), .val (.int p1), .val (.int p2), .val (.int p3), .val (.ref b10), .val (.ref b29), .val (.ref b46), .val (.ref b63), .val (.ref b80), .val (.int 0), .val (.int 1), .val .null] [(.ref b10)])) (fun target kt => ?_) ?_
    · refine XS.astore X103.here hx rfl (hb hby at_151) rfl rfl (l' := #[.val (.int p0), .val (.int p1), .val (.int p2), .val (.int p3), .val (.ref b10), .val (.ref b29), .val (.ref b46), .val (.ref b63), .val (.ref b80), .val (.int 0), .val (.int 1), .val .null]) rfl ?_
      refine XS.iload X103.here hx rfl (hb hby at_153) rfl ?_
      refine XS.ifNo X103.here hx rfl (hb hby at_155) rfl ((if0 _ _).trans (feq (by decide : ¬ ((1 : Int32) = (0 : Int32)))).1) ?_
      refine XS.aload X103.here hx rfl (hb hby at_158) rfl rfl ?_
      refine XS.ifnonnullNo X103.here hx rfl (hb hby at_160) rfl ?_
      refine XS.aload X103.here hx rfl (hb hby at_163) rfl rfl ?_
      exact kt
    obtain ⟨cq119, kq119, q119a, q119b, q119c⟩ := isOf hZ rfl q108
    obtain ⟨_, _, ⟨T119, L119, k119, n119⟩, -, X119, ⟨Lc119, hQ119, l119, y119, z119⟩, st119⟩ := X103.virtualBack hx (y := (⟨sq0, "size", "()I"⟩ : MethodName)) (z := (⟨sq0, "size", "()I"⟩ : MethodName)) hown (mvT hZ (hw _ tw116)) (mvT hZ (hw _ tw117)) (notFace_of_selects (args := #[]) (mvT hZ (hw _ tw119))) (mvT hZ (hw _ tw119)) (mvT hZ (hw _ tw118)) (by decide) (backOf (W := 0) (rm20 l Z a0 hw [] b10 (1 : Int32) T103.heap n0 (Nat.le_trans Z0 K117.1) O118  q111) hZ (hw _ tw120) (hw _ tw2) (by decide) (by decide)) q119a q119c (g := (mkF m 165 #[.val (.int p0), .val (.int p1), .val (.int p2), .val (.int p3), .val (.ref b10), .val (.ref b29), .val (.ref b46), .val (.ref b63), .val (.ref b80), .val (.int 0), .val (.int 1), .val .null] [(.ref b10)])) rfl (by rw [hml]; rfl) (Steps.refl _) (argsL := []) (rest := []) (lenOf pd16 rfl) rfl (by show 2 * 0 + _ ≤ _; exact Nat.le_of_eq rfl) (hb hby at_165) (fun _ _ => ⟨rfl, rfl, (by decide : 11 + 0 ≤ _), (by decide : 46 + 0 ≤ _)⟩)
    dsimp only [Pt.U, Pt.locs, Pt.cells, Pt.slots] at X119 l119 y119 z119 st119 hQ119
    subst l119 y119 z119
    obtain ⟨rfl, Nq119, eq119⟩ := hQ119
    have N119 := Fr.app N103 Nq119
    refine GoW.by st119 ?_
    show GoW _ _ _ _ _ _ _ (T119.setTop (mkF m 168 _ [(.int 1)]))
    refine GoW.st (t' := T119.setTop (mkF m 176 #[.val (.int p0), .val (.int p1), .val (.int p2), .val (.int p3), .val (.ref b10), .val (.ref b29), .val (.ref b46), .val (.ref b63), .val (.ref b80), .val (.int 0), .val (.int 1), .val .null] [(.ref b46), (.ref b10)])) (fun target kt => ?_) ?_
    · refine XS.iconst X119.here hx rfl (hb hby at_168) ?_
      refine XS.icmpNo X119.here hx rfl (hb hby at_169) rfl (teq (by decide : (1 : Int32) = (1 : Int32))).2 ?_
      refine XS.aload X119.here hx rfl (hb hby at_172) rfl rfl ?_
      refine XS.aload X119.here hx rfl (hb hby at_174) rfl rfl ?_
      exact kt
    have c120 := c100.keep Kq103
    obtain ⟨cq121, kq121, q121a, q121b, q121c⟩ := isOf hZ eq119 q108
    obtain ⟨_, _, ⟨T121, L121, k121, n121⟩, -, X121, ⟨Lc121, hQ121, l121, y121, z121⟩, st121⟩ := X119.virtualBack hx (y := (⟨sq0, "get", "(Ljava/lang/Object;)Ljava/lang/Object;"⟩ : MethodName)) (z := (⟨sq0, "get", "(Ljava/lang/Object;)Ljava/lang/Object;"⟩ : MethodName)) hown (mvT hZ (hw _ tw126)) (mvT hZ (hw _ tw127)) (notFace_of_selects (args := #[]) (mvT hZ (hw _ tw129))) (mvT hZ (hw _ tw129)) (mvT hZ (hw _ tw128)) (by decide) (backOf (W := 0) (rm22_same_4 l Z a0 hw [] b10 b46 (((0 : Int32) + (1 : Int32)) + (1 : Int32)) wcs b104 k105 b80 T103.heap n0 (Nat.le_trans Z0 K117.1) O118 S_CS hcs q108 q109 q110 q111 q112 q113 q114 c120) hZ (hw _ tw130) (hw _ tw2) (by decide) (by decide)) q121a q121c (g := (mkF m 176 #[.val (.int p0), .val (.int p1), .val (.int p2), .val (.int p3), .val (.ref b10), .val (.ref b29), .val (.ref b46), .val (.ref b63), .val (.ref b80), .val (.int 0), .val (.int 1), .val .null] [(.ref b46), (.ref b10)])) rfl (by rw [hml]; rfl) (Steps.refl _) (argsL := [(.ref b46)]) (rest := []) (lenOf pd17 rfl) rfl (by show 2 * 0 + _ ≤ _; exact Nat.le_of_eq rfl) (hb hby at_176) (fun _ _ => ⟨rfl, eq119, (by decide : 11 + 0 ≤ _), (by decide : 46 + 0 ≤ _)⟩)
    dsimp only [Pt.U, Pt.locs, Pt.cells, Pt.slots] at X121 l121 y121 z121 st121 hQ121
    subst l121 y121 z121
    obtain ⟨rfl, Nq121, eq121⟩ := hQ121
    have N121 := Fr.app N119 Nq121
    refine GoW.by st121 ?_
    show GoW _ _ _ _ _ _ _ (T121.setTop (mkF m 179 _ [(.ref b80)]))
    refine GoW.st (t' := T121.setTop (mkF m 189 #[.val (.int p0), .val (.int p1), .val (.int p2), .val (.int p3), .val (.ref b10), .val (.ref b29), .val (.ref b46), .val (.ref b63), .val (.ref b80), .val (.int 0), .val (.int 1), .val .null] [(.int 1)])) (fun target kt => ?_) ?_
    · refine XS.aload X121.here hx rfl (hb hby at_179) rfl rfl ?_
      refine Jvm.RoadKit.acmp (g := (mkF m 181 #[.val (.int p0), .val (.int p1), .val (.int p2), .val (.int p3), .val (.ref b10), .val (.ref b29), .val (.ref b46), .val (.ref b63), .val (.ref b80), .val (.int 0), .val (.int 1), .val .null] [(.ref b80), (.ref b80)])) X121 hx rfl rfl rfl (pc0 := 181) (pc' := 184) (same := true) rfl (hb hby at_181) rfl (decide_eq_true rfl) (by decide) (by decide) ?_
      refine XS.iconst X121.here hx rfl (hb hby at_184) ?_
      refine XS.goto X121.here hx rfl (pc0 := 185) (pc' := 189) rfl (hb hby at_185) (by decide) (by decide) ?_
      exact kt
    refine GoW.ret X121 hSi (by rw [eq121]; exact (Nat.le_refl _)) (v := some (.int 1)) (fun h => by rw [hret] at h; cases h) hlk (fun fs hr => retN X121 hx (t := .boolean) hret (by simp) (hb hby at_189) hr) ?_ (by decide) (by decide)
    show Q0 Z p0 p1 p2 p3 wn kn wm wcs wc clc h0 n0 _ T121.heap _
    rw [eq121]
    exact ⟨rfl, N121, K117⟩
  · have hk_ := hk
    rw [hk]
    show GoW _ _ _ _ _ _ _ (T79.setTop (mkF m 51 _ [(.int 1)]))
    refine GoW.st (t' := T79.setTop (mkF m 64 #[.val (.int p0), .val (.int p1), .val (.int p2), .val (.int p3), .val (.ref b10), .val (.ref b29), .val (.ref b46), .val (.ref b63), .val (.ref b80), .val (.int 1), .unset, .unset] [(.int p3), (.ref b29), (.ref b10)])) (fun target kt => ?_) ?_
    · refine XS.istore X79.here hx rfl (hb hby at_51) rfl (l' := #[.val (.int p0), .val (.int p1), .val (.int p2), .val (.int p3), .val (.ref b10), .val (.ref b29), .val (.ref b46), .val (.ref b63), .val (.ref b80), .val (.int 1), .unset, .unset]) rfl ?_
      refine XS.iload X79.here hx rfl (hb hby at_53) rfl ?_
      refine XS.iconst X79.here hx rfl (hb hby at_55) ?_
      refine XS.icmpNo X79.here hx rfl (hb hby at_56) rfl (flt (by decide : ¬ ((1 : Int32) < (1 : Int32)))).1 ?_
      refine XS.aload X79.here hx rfl (hb hby at_59) rfl rfl ?_
      refine XS.aload X79.here hx rfl (hb hby at_61) rfl rfl ?_
      refine XS.iloadN X79.here hx rfl (hb hby at_63) rfl ?_
      exact kt
    obtain ⟨_, _, ⟨T122, L122, k122, n122⟩, -, X122, ⟨Lc122, hQ122, l122, y122, z122⟩, st122⟩ := Jvm.LawKit.callS X79 hx (y := (⟨"java/lang/Integer", "valueOf", "(I)Ljava/lang/Integer;"⟩ : MethodName)) hown (mvT hZ (hw _ tw42)) (mvT hZ (hw _ tw43)) (mvT hZ (hw _ tw44)) (mvT hZ (hw _ tw45)) (by decide) (backOf (W := 2) (rm8 l Z a0 hw [] p3 wc clc T79.heap n0 (Nat.le_trans Z0 K82.1) O83 S_HI S_CA A_CA hcache ) hZ (hw _ tw45) (hw _ tw44) (by decide) (by decide)) (g := (mkF m 64 #[.val (.int p0), .val (.int p1), .val (.int p2), .val (.int p3), .val (.ref b10), .val (.ref b29), .val (.ref b46), .val (.ref b63), .val (.ref b80), .val (.int 1), .unset, .unset] [(.int p3), (.ref b29), (.ref b10)])) rfl (by rw [hml]; rfl) (argsL := [(.int p3)]) (rest := [(.ref b29), (.ref b10)]) (lenOf pd15 rfl) rfl (by show 2 * 0 + _ ≤ _; exact Nat.le_of_eq rfl) (hb hby at_64) (fun _ _ => ⟨rfl, rfl, (by decide : 8 + 1 ≤ _), (by decide : 22 + 1 ≤ _)⟩)
    dsimp only [Pt.U, Pt.locs, Pt.cells, Pt.slots] at X122 l122 y122 z122 st122 hQ122
    subst l122 y122 z122
    obtain ⟨b123, rfl, Nq122, Kq122, q124⟩ := hQ122
    have N122 := Fr.app N79 Nq122
    have K125 := K82.trans Kq122 all0
    have O126 := O83.keep Kq122 all0
    refine GoW.st st122 ?_
    show GoW _ _ _ _ _ _ _ (T122.setTop (mkF m 67 _ [(.ref b123), (.ref b29), (.ref b10)]))
    have c127 := ((((q21.keep Kq28).keep Kq45).keep Kq62).keep Kq79).keep Kq122
    have c128 := ((((q22.keep Kq28 nin0).keep Kq45 nin0).keep Kq62 nin0).keep Kq79 nin0).keep Kq122 nin0
    have c129 := ((((q23.keep Kq28 nin0).keep Kq45 nin0).keep Kq62 nin0).keep Kq79 nin0).keep Kq122 nin0
    have c130 := ((((q24.keep Kq28 nin0).keep Kq45 nin0).keep Kq62 nin0).keep Kq79 nin0).keep Kq122 nin0
    have c131 := ((((q25.keep Kq28 nin0).keep Kq45 nin0).keep Kq62 nin0).keep Kq79 nin0).keep Kq122 nin0
    have c132 := (((q35.keep Kq45).keep Kq62).keep Kq79).keep Kq122
    obtain ⟨cq133, kq133, q133a, q133b, q133c⟩ := isOf hZ rfl c127
    obtain ⟨_, _, ⟨T133, L133, k133, n133⟩, -, X133, hSn133, hgr133, ⟨Lc133, hQ133, l133, y133, z133⟩, st133⟩ := X122.virtualBackS hx (y := (⟨sq0, "put", sq4⟩ : MethodName)) (z := (⟨sq0, "put", sq4⟩ : MethodName)) hown (mvT hZ (hw _ tw49)) (mvT hZ (hw _ tw50)) (notFace_of_selects (args := #[]) (mvT hZ (hw _ tw52))) (mvT hZ (hw _ tw52)) (mvT hZ (hw _ tw51)) (by decide) (backOfS (s := (s.setVm s.vm)) (W := 0) (rm9_none_0_0_R l Z a0 hw [] b10 b29 b123 (0 : Int32) wcs wm wn kn T122.heap n0 (Nat.le_trans Z0 K125.1) O126 S_CS hcs M_AO S_NM E_wn V_wn c127 c128 c129 c130 c131 c132 g13 q124) hZ (hw _ tw53) (hw _ tw2) (by decide) (by decide)) q133a q133c (g := (mkF m 67 #[.val (.int p0), .val (.int p1), .val (.int p2), .val (.int p3), .val (.ref b10), .val (.ref b29), .val (.ref b46), .val (.ref b63), .val (.ref b80), .val (.int 1), .unset, .unset] [(.ref b123), (.ref b29), (.ref b10)])) rfl (by rw [hml]; rfl) (Steps.refl _) (argsL := [(.ref b29), (.ref b123)]) (rest := []) (lenOf pd18 rfl) rfl (by show 2 * 0 + _ ≤ _; exact Nat.le_of_eq rfl) (hb hby at_67) (fun _ _ => ⟨rfl, rfl, (by decide : 9 + 3 ≤ _), (by decide : 23 + 24 ≤ _)⟩)
    dsimp only [Pt.U, Pt.locs, Pt.cells, Pt.slots] at X133 l133 y133 z133 st133 hQ133 hSn133 hgr133
    subst l133 y133 z133
    have hSi := foldS hSi (Nat.le_trans (Nat.zero_le _) (Nat.le_trans (Nat.le_trans (Nat.le_trans (Nat.le_trans (Nat.le_trans (Nat.le_trans E10.1 Kq20.1) Kq28.1) Kq45.1) Kq62.1) Kq79.1) Kq122.1)) hSn133 hgr133
    have hown : T133.vm.findClass "com/example/graphweave/graphweave/json/JsonObjectClearPinLaw" = some m.cls := by rw [hSn133.1.alike.findClass]; exact hown
    have hZ : Z.Warmed39 T133.vm := State.Warmed39.trans (t := (s.setVm s.vm)) hZ hSn133.1
    have X133 : Stand p l e room_1 (s.setVm T133.vm) m #[(.int p0), (.int p1), (.int p2), (.int p3)] below meth c T133 _ _ _ := X133
    obtain ⟨b134, k135, rfl, Nq133, Kq133, q136, q137, q138, q139, q140, q141, q142, q143, q144⟩ := hQ133
    have N133 := Fr.app N122 Nq133
    have sz145 : h0.size ≤ b134 := Nat.le_trans K125.1 q136
    have g146 : n0 ≤ b134 := Nat.le_trans Z0 sz145
    have K147 := K125.trans Kq133 (allS (Or.inr sz12) all0)
    have O148 := O126.keep Kq133 (allS g13 all0)
    refine GoW.by st133 ?_
    show GoW _ _ _ _ _ _ _ (T133.setTop (mkF m 70 _ [.null]))
    refine GoW.st (t' := T133.setTop (mkF m 104 #[.val (.int p0), .val (.int p1), .val (.int p2), .val (.int p3), .val (.ref b10), .val (.ref b29), .val (.ref b46), .val (.ref b63), .val (.ref b80), .val (.int 1), .unset, .unset] [(.ref b10)])) (fun target kt => ?_) ?_
    · refine XS.pop X133.here hx rfl (hb hby at_70) rfl rfl ?_
      refine XS.iload X133.here hx rfl (hb hby at_71) rfl ?_
      refine XS.iconst X133.here hx rfl (hb hby at_73) ?_
      refine XS.icmpYes X133.here hx rfl (pc0 := 74) (pc' := 87) rfl (hb hby at_74) rfl (tlt (by decide : (1 : Int32) < (2 : Int32))).1 (by decide) (by decide) ?_
      refine XS.iload X133.here hx rfl (hb hby at_87) rfl ?_
      refine XS.iconst X133.here hx rfl (hb hby at_89) ?_
      refine XS.icmpYes X133.here hx rfl (pc0 := 90) (pc' := 102) rfl (hb hby at_90) rfl (tlt (by decide : (1 : Int32) < (3 : Int32))).1 (by decide) (by decide) ?_
      refine XS.aload X133.here hx rfl (hb hby at_102) rfl rfl ?_
      exact kt
    have o149 : b10 < b30 := Nat.lt_of_lt_of_le A10.lt (Nat.le_trans Kq20.1 q34)
    have o150 : b30 < b47 := Nat.lt_of_lt_of_le q38.lt q51
    have o151 : b10 < b47 := Nat.lt_trans o149 o150
    have o152 : b47 < b64 := Nat.lt_of_lt_of_le q55.lt q68
    have o153 : b10 < b64 := Nat.lt_trans o151 o152
    have o154 : b64 < b134 := Nat.lt_of_lt_of_le q72.lt (Nat.le_trans (Nat.le_trans Kq79.1 Kq122.1) q136)
    have o155 : b10 < b134 := Nat.lt_trans o153 o154
    have ne156 : b10 ≠ b134 := Nat.ne_of_lt o155
    obtain ⟨cq157, kq157, q157a, q157b, q157c⟩ := isOf hZ rfl q138
    obtain ⟨_, _, ⟨T157, L157, k157, n157⟩, -, X157, ⟨Lc157, hQ157, l157, y157, z157⟩, st157⟩ := X133.virtualBack hx (y := (⟨sq0, "clear", "()V"⟩ : MethodName)) (z := (⟨sq0, "clear", "()V"⟩ : MethodName)) hown (mvT hZ (hw _ tw105)) (mvT hZ (hw _ tw106)) (notFace_of_selects (args := #[]) (mvT hZ (hw _ tw108))) (mvT hZ (hw _ tw108)) (mvT hZ (hw _ tw107)) (by decide) (backOf (W := 0) (rm17_4_1 l Z a0 hw [] b10 b134 k135 (.ref b29) (.ref b123) ((0 : Int32) + (1 : Int32)) T133.heap n0 (Nat.le_trans Z0 K147.1) O148  q138 q139 q140 q141 q142 q143 q144 g13 g146 ne156) hZ (hw _ tw109) (hw _ tw2) (by decide) (by decide)) q157a q157c (g := (mkF m 104 #[.val (.int p0), .val (.int p1), .val (.int p2), .val (.int p3), .val (.ref b10), .val (.ref b29), .val (.ref b46), .val (.ref b63), .val (.ref b80), .val (.int 1), .unset, .unset] [(.ref b10)])) rfl (by rw [hml]; rfl) (Steps.refl _) (argsL := []) (rest := []) (lenOf pd0 rfl) rfl (by show 2 * 0 + _ ≤ _; exact Nat.le_of_eq rfl) (hb hby at_104) (fun _ _ => ⟨rfl, rfl, (by decide : 12 + 0 ≤ _), (by decide : 47 + 0 ≤ _)⟩)
    dsimp only [Pt.U, Pt.locs, Pt.cells, Pt.slots] at X157 l157 y157 z157 st157 hQ157
    subst l157 y157 z157
    obtain ⟨rfl, Nq157, Kq157, q158, q159, q160, q161, q162, q163, q164⟩ := hQ157
    have N157 := Fr.app N133 Nq157
    have K165 := K147.trans Kq157 (allS (Or.inr sz12) (allS (Or.inr sz145) all0))
    have O166 := O148.keep Kq157 (allS g13 (allS g146 all0))
    refine GoW.by st157 ?_
    show GoW _ _ _ _ _ _ _ (T157.setTop (mkF m 107 _ []))
    refine GoW.st (t' := T157.setTop (mkF m 109 #[.val (.int p0), .val (.int p1), .val (.int p2), .val (.int p3), .val (.ref b10), .val (.ref b29), .val (.ref b46), .val (.ref b63), .val (.ref b80), .val (.int 1), .unset, .unset] [(.ref b10)])) (fun target kt => ?_) ?_
    · refine XS.aload X157.here hx rfl (hb hby at_107) rfl rfl ?_
      exact kt
    obtain ⟨cq167, kq167, q167a, q167b, q167c⟩ := isOf hZ rfl q158
    obtain ⟨_, _, ⟨T167, L167, k167, n167⟩, -, X167, ⟨Lc167, hQ167, l167, y167, z167⟩, st167⟩ := X157.virtualBack hx (y := (⟨sq0, "size", "()I"⟩ : MethodName)) (z := (⟨sq0, "size", "()I"⟩ : MethodName)) hown (mvT hZ (hw _ tw116)) (mvT hZ (hw _ tw117)) (notFace_of_selects (args := #[]) (mvT hZ (hw _ tw119))) (mvT hZ (hw _ tw119)) (mvT hZ (hw _ tw118)) (by decide) (backOf (W := 0) (rm20 l Z a0 hw [] b10 (0 : Int32) T157.heap n0 (Nat.le_trans Z0 K165.1) O166  q161) hZ (hw _ tw120) (hw _ tw2) (by decide) (by decide)) q167a q167c (g := (mkF m 109 #[.val (.int p0), .val (.int p1), .val (.int p2), .val (.int p3), .val (.ref b10), .val (.ref b29), .val (.ref b46), .val (.ref b63), .val (.ref b80), .val (.int 1), .unset, .unset] [(.ref b10)])) rfl (by rw [hml]; rfl) (Steps.refl _) (argsL := []) (rest := []) (lenOf pd16 rfl) rfl (by show 2 * 0 + _ ≤ _; exact Nat.le_of_eq rfl) (hb hby at_109) (fun _ _ => ⟨rfl, rfl, (by decide : 12 + 0 ≤ _), (by decide : 47 + 0 ≤ _)⟩)
    dsimp only [Pt.U, Pt.locs, Pt.cells, Pt.slots] at X167 l167 y167 z167 st167 hQ167
    subst l167 y167 z167
    obtain ⟨rfl, Nq167, eq167⟩ := hQ167
    have N167 := Fr.app N157 Nq167
    refine GoW.by st167 ?_
    show GoW _ _ _ _ _ _ _ (T167.setTop (mkF m 112 _ [(.int 0)]))
    refine GoW.st (t' := T167.setTop (mkF m 119 #[.val (.int p0), .val (.int p1), .val (.int p2), .val (.int p3), .val (.ref b10), .val (.ref b29), .val (.ref b46), .val (.ref b63), .val (.ref b80), .val (.int 1), .unset, .unset] [(.ref b29), (.ref b10)])) (fun target kt => ?_) ?_
    · refine XS.ifNo X167.here hx rfl (hb hby at_112) rfl ((if0 _ _).trans (teq (by decide : (0 : Int32) = (0 : Int32))).2) ?_
      refine XS.aload X167.here hx rfl (hb hby at_115) rfl rfl ?_
      refine XS.aload X167.here hx rfl (hb hby at_117) rfl rfl ?_
      exact kt
    have c168 := (c132.keep Kq133).keep Kq157
    obtain ⟨cq169, kq169, q169a, q169b, q169c⟩ := isOf hZ eq167 q158
    obtain ⟨_, _, ⟨T169, L169, k169, n169⟩, -, X169, ⟨Lc169, hQ169, l169, y169, z169⟩, st169⟩ := X167.virtualBack hx (y := (⟨sq0, "containsKey", "(Ljava/lang/Object;)Z"⟩ : MethodName)) (z := (⟨sq0, "containsKey", "(Ljava/lang/Object;)Z"⟩ : MethodName)) hown (mvT hZ (hw _ tw121)) (mvT hZ (hw _ tw122)) (notFace_of_selects (args := #[]) (mvT hZ (hw _ tw124))) (mvT hZ (hw _ tw124)) (mvT hZ (hw _ tw123)) (by decide) (backOf (W := 0) (rm21_4 l Z a0 hw [] b10 b29 (((0 : Int32) + (1 : Int32)) + (1 : Int32)) wcs b134 k135 T157.heap n0 (Nat.le_trans Z0 K165.1) O166 S_CS hcs q158 q159 q160 q161 q162 q163 q164 c168) hZ (hw _ tw125) (hw _ tw2) (by decide) (by decide)) q169a q169c (g := (mkF m 119 #[.val (.int p0), .val (.int p1), .val (.int p2), .val (.int p3), .val (.ref b10), .val (.ref b29), .val (.ref b46), .val (.ref b63), .val (.ref b80), .val (.int 1), .unset, .unset] [(.ref b29), (.ref b10)])) rfl (by rw [hml]; rfl) (Steps.refl _) (argsL := [(.ref b29)]) (rest := []) (lenOf pd6 rfl) rfl (by show 2 * 0 + _ ≤ _; exact Nat.le_of_eq rfl) (hb hby at_119) (fun _ _ => ⟨rfl, eq167, (by decide : 12 + 0 ≤ _), (by decide : 47 + 0 ≤ _)⟩)
    dsimp only [Pt.U, Pt.locs, Pt.cells, Pt.slots] at X169 l169 y169 z169 st169 hQ169
    subst l169 y169 z169
    obtain ⟨rfl, Nq169, eq169⟩ := hQ169
    have N169 := Fr.app N167 Nq169
    refine GoW.by st169 ?_
    show GoW _ _ _ _ _ _ _ (T169.setTop (mkF m 122 _ [(.int 0)]))
    refine GoW.st (t' := T169.setTop (mkF m 129 #[.val (.int p0), .val (.int p1), .val (.int p2), .val (.int p3), .val (.ref b10), .val (.ref b29), .val (.ref b46), .val (.ref b63), .val (.ref b80), .val (.int 1), .unset, .unset] [(.ref b46), (.ref b10)])) (fun target kt => ?_) ?_
    · refine XS.ifNo X169.here hx rfl (hb hby at_122) rfl ((if0 _ _).trans (teq (by decide : (0 : Int32) = (0 : Int32))).2) ?_
      refine XS.aload X169.here hx rfl (hb hby at_125) rfl rfl ?_
      refine XS.aload X169.here hx rfl (hb hby at_127) rfl rfl ?_
      exact kt
    have c170 := ((((q52.keep Kq62).keep Kq79).keep Kq122).keep Kq133).keep Kq157
    obtain ⟨cq171, kq171, q171a, q171b, q171c⟩ := isOf hZ eq169 q158
    obtain ⟨_, _, ⟨T171, L171, k171, n171⟩, -, X171, ⟨Lc171, hQ171, l171, y171, z171⟩, st171⟩ := X169.virtualBack hx (y := (⟨sq0, "get", "(Ljava/lang/Object;)Ljava/lang/Object;"⟩ : MethodName)) (z := (⟨sq0, "get", "(Ljava/lang/Object;)Ljava/lang/Object;"⟩ : MethodName)) hown (mvT hZ (hw _ tw126)) (mvT hZ (hw _ tw127)) (notFace_of_selects (args := #[]) (mvT hZ (hw _ tw129))) (mvT hZ (hw _ tw129)) (mvT hZ (hw _ tw128)) (by decide) (backOf (W := 0) (rm22_none_4 l Z a0 hw [] b10 b46 (((0 : Int32) + (1 : Int32)) + (1 : Int32)) wcs b134 k135 T157.heap n0 (Nat.le_trans Z0 K165.1) O166 S_CS hcs q158 q159 q160 q161 q162 q163 q164 c170) hZ (hw _ tw130) (hw _ tw2) (by decide) (by decide)) q171a q171c (g := (mkF m 129 #[.val (.int p0), .val (.int p1), .val (.int p2), .val (.int p3), .val (.ref b10), .val (.ref b29), .val (.ref b46), .val (.ref b63), .val (.ref b80), .val (.int 1), .unset, .unset] [(.ref b46), (.ref b10)])) rfl (by rw [hml]; rfl) (Steps.refl _) (argsL := [(.ref b46)]) (rest := []) (lenOf pd17 rfl) rfl (by show 2 * 0 + _ ≤ _; exact Nat.le_of_eq rfl) (hb hby at_129) (fun _ _ => ⟨rfl, eq169, (by decide : 12 + 0 ≤ _), (by decide : 47 + 0 ≤ _)⟩)
    dsimp only [Pt.U, Pt.locs, Pt.cells, Pt.slots] at X171 l171 y171 z171 st171 hQ171
    subst l171 y171 z171
    obtain ⟨rfl, Nq171, eq171⟩ := hQ171
    have N171 := Fr.app N169 Nq171
    refine GoW.by st171 ?_
    show GoW _ _ _ _ _ _ _ (T171.setTop (mkF m 132 _ [.null]))
    refine GoW.st (t' := T171.setTop (mkF m 148 #[.val (.int p0), .val (.int p1), .val (.int p2), .val (.int p3), .val (.ref b10), .val (.ref b29), .val (.ref b46), .val (.ref b63), .val (.ref b80), .val (.int 1), .val (.int 1), .unset] [(.ref b80), (.ref b46), (.ref b10)])) (fun target kt => ?_) ?_
    · refine XS.ifnonnullNo X171.here hx rfl (hb hby at_132) rfl ?_
      refine XS.iconst X171.here hx rfl (hb hby at_135) ?_
      refine XS.goto X171.here hx rfl (pc0 := 136) (pc' := 140) rfl (hb hby at_136) (by decide) (by decide) ?_
      refine XS.istore X171.here hx rfl (hb hby at_140) rfl (l' := #[.val (.int p0), .val (.int p1), .val (.int p2), .val (.int p3), .val (.ref b10), .val (.ref b29), .val (.ref b46), .val (.ref b63), .val (.ref b80), .val (.int 1), .val (.int 1), .unset]) rfl ?_
      refine XS.aload X171.here hx rfl (hb hby at_142) rfl rfl ?_
      refine XS.aload X171.here hx rfl (hb hby at_144) rfl rfl ?_
      refine XS.aload X171.here hx rfl (hb hby at_146) rfl rfl ?_
      exact kt
    have c172 := ((q81.keep Kq122).keep Kq133).keep Kq157
    obtain ⟨cq173, kq173, q173a, q173b, q173c⟩ := isOf hZ eq171 q158
    obtain ⟨_, _, ⟨T173, L173, k173, n173⟩, -, X173, hSn173, hgr173, ⟨Lc173, hQ173, l173, y173, z173⟩, st173⟩ := X171.virtualBackS hx (y := (⟨sq0, "put", sq4⟩ : MethodName)) (z := (⟨sq0, "put", sq4⟩ : MethodName)) hown (mvT hZ (hw _ tw49)) (mvT hZ (hw _ tw50)) (notFace_of_selects (args := #[]) (mvT hZ (hw _ tw52))) (mvT hZ (hw _ tw52)) (mvT hZ (hw _ tw51)) (by decide) (backOfS (s := (s.setVm T133.vm)) (W := 0) (rm9_none_0_4_R l Z a0 hw [] b10 b46 b80 (((0 : Int32) + (1 : Int32)) + (1 : Int32)) wcs wm b134 k135 T157.heap n0 (Nat.le_trans Z0 K165.1) O166 S_CS hcs M_AO q158 q159 q160 q161 q162 q163 q164 c170 g13 g146 q137 ne156 c172) hZ (hw _ tw53) (hw _ tw2) (by decide) (by decide)) q173a q173c (g := (mkF m 148 #[.val (.int p0), .val (.int p1), .val (.int p2), .val (.int p3), .val (.ref b10), .val (.ref b29), .val (.ref b46), .val (.ref b63), .val (.ref b80), .val (.int 1), .val (.int 1), .unset] [(.ref b80), (.ref b46), (.ref b10)])) rfl (by rw [hml]; rfl) (Steps.refl _) (argsL := [(.ref b46), (.ref b80)]) (rest := []) (lenOf pd18 rfl) rfl (by show 2 * 0 + _ ≤ _; exact Nat.le_of_eq rfl) (hb hby at_148) (fun _ _ => ⟨rfl, eq171, (by decide : 12 + 2 ≤ _), (by decide : 47 + 20 ≤ _)⟩)
    dsimp only [Pt.U, Pt.locs, Pt.cells, Pt.slots] at X173 l173 y173 z173 st173 hQ173 hSn173 hgr173
    subst l173 y173 z173
    have hSi := foldS hSi (by rw [eq171]; exact (Nat.le_trans (Nat.le_refl _) Kq157.1)) hSn173 hgr173
    have hown : T173.vm.findClass "com/example/graphweave/graphweave/json/JsonObjectClearPinLaw" = some m.cls := by rw [hSn173.1.alike.findClass]; exact hown
    have hZ : Z.Warmed39 T173.vm := State.Warmed39.trans (t := (s.setVm T133.vm)) hZ hSn173.1
    have X173 : Stand p l e room_1 (s.setVm T173.vm) m #[(.int p0), (.int p1), (.int p2), (.int p3)] below meth c T173 _ _ _ := X173
    obtain ⟨rfl, Nq173, Kq173, q174, q175, q176, q177, q178, q179, q180⟩ := hQ173
    have N173 := Fr.app N171 Nq173
    have K181 := K165.trans Kq173 (allS (Or.inr sz12) (allS (Or.inr sz145) all0))
    have O182 := O166.keep Kq173 (allS g13 (allS g146 all0))
    refine GoW.by st173 ?_
    show GoW _ _ _ _ _ _ _ (T173.setTop (mkF m 151 _ [.null]))
    refine GoW.st (t' := T173.setTop (mkF m 165 #[.val (.int p0), .val (.int p1), .val (.int p2), .val (.int p3), .val (.ref b10), .val (.ref b29), .val (.ref b46), .val (.ref b63), .val (.ref b80), .val (.int 1), .val (.int 1), .val .null] [(.ref b10)])) (fun target kt => ?_) ?_
    · refine XS.astore X173.here hx rfl (hb hby at_151) rfl rfl (l' := #[.val (.int p0), .val (.int p1), .val (.int p2), .val (.int p3), .val (.ref b10), .val (.ref b29), .val (.ref b46), .val (.ref b63), .val (.ref b80), .val (.int 1), .val (.int 1), .val .null]) rfl ?_
      refine XS.iload X173.here hx rfl (hb hby at_153) rfl ?_
      refine XS.ifNo X173.here hx rfl (hb hby at_155) rfl ((if0 _ _).trans (feq (by decide : ¬ ((1 : Int32) = (0 : Int32)))).1) ?_
      refine XS.aload X173.here hx rfl (hb hby at_158) rfl rfl ?_
      refine XS.ifnonnullNo X173.here hx rfl (hb hby at_160) rfl ?_
      refine XS.aload X173.here hx rfl (hb hby at_163) rfl rfl ?_
      exact kt
    obtain ⟨cq183, kq183, q183a, q183b, q183c⟩ := isOf hZ rfl q174
    obtain ⟨_, _, ⟨T183, L183, k183, n183⟩, -, X183, ⟨Lc183, hQ183, l183, y183, z183⟩, st183⟩ := X173.virtualBack hx (y := (⟨sq0, "size", "()I"⟩ : MethodName)) (z := (⟨sq0, "size", "()I"⟩ : MethodName)) hown (mvT hZ (hw _ tw116)) (mvT hZ (hw _ tw117)) (notFace_of_selects (args := #[]) (mvT hZ (hw _ tw119))) (mvT hZ (hw _ tw119)) (mvT hZ (hw _ tw118)) (by decide) (backOf (W := 0) (rm20 l Z a0 hw [] b10 (1 : Int32) T173.heap n0 (Nat.le_trans Z0 K181.1) O182  q177) hZ (hw _ tw120) (hw _ tw2) (by decide) (by decide)) q183a q183c (g := (mkF m 165 #[.val (.int p0), .val (.int p1), .val (.int p2), .val (.int p3), .val (.ref b10), .val (.ref b29), .val (.ref b46), .val (.ref b63), .val (.ref b80), .val (.int 1), .val (.int 1), .val .null] [(.ref b10)])) rfl (by rw [hml]; rfl) (Steps.refl _) (argsL := []) (rest := []) (lenOf pd16 rfl) rfl (by show 2 * 0 + _ ≤ _; exact Nat.le_of_eq rfl) (hb hby at_165) (fun _ _ => ⟨rfl, rfl, (by decide : 14 + 0 ≤ _), (by decide : 67 + 0 ≤ _)⟩)
    dsimp only [Pt.U, Pt.locs, Pt.cells, Pt.slots] at X183 l183 y183 z183 st183 hQ183
    subst l183 y183 z183
    obtain ⟨rfl, Nq183, eq183⟩ := hQ183
    have N183 := Fr.app N173 Nq183
    refine GoW.by st183 ?_
    show GoW _ _ _ _ _ _ _ (T183.setTop (mkF m 168 _ [(.int 1)]))
    refine GoW.st (t' := T183.setTop (mkF m 176 #[.val (.int p0), .val (.int p1), .val (.int p2), .val (.int p3), .val (.ref b10), .val (.ref b29), .val (.ref b46), .val (.ref b63), .val (.ref b80), .val (.int 1), .val (.int 1), .val .null] [(.ref b46), (.ref b10)])) (fun target kt => ?_) ?_
    · refine XS.iconst X183.here hx rfl (hb hby at_168) ?_
      refine XS.icmpNo X183.here hx rfl (hb hby at_169) rfl (teq (by decide : (1 : Int32) = (1 : Int32))).2 ?_
      refine XS.aload X183.here hx rfl (hb hby at_172) rfl rfl ?_
      refine XS.aload X183.here hx rfl (hb hby at_174) rfl rfl ?_
      exact kt
    have c184 := c170.keep Kq173
    obtain ⟨cq185, kq185, q185a, q185b, q185c⟩ := isOf hZ eq183 q174
    obtain ⟨_, _, ⟨T185, L185, k185, n185⟩, -, X185, ⟨Lc185, hQ185, l185, y185, z185⟩, st185⟩ := X183.virtualBack hx (y := (⟨sq0, "get", "(Ljava/lang/Object;)Ljava/lang/Object;"⟩ : MethodName)) (z := (⟨sq0, "get", "(Ljava/lang/Object;)Ljava/lang/Object;"⟩ : MethodName)) hown (mvT hZ (hw _ tw126)) (mvT hZ (hw _ tw127)) (notFace_of_selects (args := #[]) (mvT hZ (hw _ tw129))) (mvT hZ (hw _ tw129)) (mvT hZ (hw _ tw128)) (by decide) (backOf (W := 0) (rm22_same_4 l Z a0 hw [] b10 b46 ((((0 : Int32) + (1 : Int32)) + (1 : Int32)) + (1 : Int32)) wcs b134 k135 b80 T173.heap n0 (Nat.le_trans Z0 K181.1) O182 S_CS hcs q174 q175 q176 q177 q178 q179 q180 c184) hZ (hw _ tw130) (hw _ tw2) (by decide) (by decide)) q185a q185c (g := (mkF m 176 #[.val (.int p0), .val (.int p1), .val (.int p2), .val (.int p3), .val (.ref b10), .val (.ref b29), .val (.ref b46), .val (.ref b63), .val (.ref b80), .val (.int 1), .val (.int 1), .val .null] [(.ref b46), (.ref b10)])) rfl (by rw [hml]; rfl) (Steps.refl _) (argsL := [(.ref b46)]) (rest := []) (lenOf pd17 rfl) rfl (by show 2 * 0 + _ ≤ _; exact Nat.le_of_eq rfl) (hb hby at_176) (fun _ _ => ⟨rfl, eq183, (by decide : 14 + 0 ≤ _), (by decide : 67 + 0 ≤ _)⟩)
    dsimp only [Pt.U, Pt.locs, Pt.cells, Pt.slots] at X185 l185 y185 z185 st185 hQ185
    subst l185 y185 z185
    obtain ⟨rfl, Nq185, eq185⟩ := hQ185
    have N185 := Fr.app N183 Nq185
    refine GoW.by st185 ?_
    show GoW _ _ _ _ _ _ _ (T185.setTop (mkF m 179 _ [(.ref b80)]))
    refine GoW.st (t' := T185.setTop (mkF m 189 #[.val (.int p0), .val (.int p1), .val (.int p2), .val (.int p3), .val (.ref b10), .val (.ref b29), .val (.ref b46), .val (.ref b63), .val (.ref b80), .val (.int 1), .val (.int 1), .val .null] [(.int 1)])) (fun target kt => ?_) ?_
    · refine XS.aload X185.here hx rfl (hb hby at_179) rfl rfl ?_
      refine Jvm.RoadKit.acmp (g := (mkF m 181 #[.val (.int p0), .val (.int p1), .val (.int p2), .val (.int p3), .val (.ref b10), .val (.ref b29), .val (.ref b46), .val (.ref b63), .val (.ref b80), .val (.int 1), .val (.int 1), .val .null] [(.ref b80), (.ref b80)])) X185 hx rfl rfl rfl (pc0 := 181) (pc' := 184) (same := true) rfl (hb hby at_181) rfl (decide_eq_true rfl) (by decide) (by decide) ?_
      refine XS.iconst X185.here hx rfl (hb hby at_184) ?_
      refine XS.goto X185.here hx rfl (pc0 := 185) (pc' := 189) rfl (hb hby at_185) (by decide) (by decide) ?_
      exact kt
    refine GoW.ret X185 hSi (by rw [eq185]; exact (Nat.le_refl _)) (v := some (.int 1)) (fun h => by rw [hret] at h; cases h) hlk (fun fs hr => retN X185 hx (t := .boolean) hret (by simp) (hb hby at_189) hr) ?_ (by decide) (by decide)
    show Q0 Z p0 p1 p2 p3 wn kn wm wcs wc clc h0 n0 _ T185.heap _
    rw [eq185]
    exact ⟨rfl, N185, K181⟩
  · have hk_ := hk
    rw [hk]
    show GoW _ _ _ _ _ _ _ (T79.setTop (mkF m 51 _ [(.int 2)]))
    refine GoW.st (t' := T79.setTop (mkF m 64 #[.val (.int p0), .val (.int p1), .val (.int p2), .val (.int p3), .val (.ref b10), .val (.ref b29), .val (.ref b46), .val (.ref b63), .val (.ref b80), .val (.int 2), .unset, .unset] [(.int p3), (.ref b29), (.ref b10)])) (fun target kt => ?_) ?_
    · refine XS.istore X79.here hx rfl (hb hby at_51) rfl (l' := #[.val (.int p0), .val (.int p1), .val (.int p2), .val (.int p3), .val (.ref b10), .val (.ref b29), .val (.ref b46), .val (.ref b63), .val (.ref b80), .val (.int 2), .unset, .unset]) rfl ?_
      refine XS.iload X79.here hx rfl (hb hby at_53) rfl ?_
      refine XS.iconst X79.here hx rfl (hb hby at_55) ?_
      refine XS.icmpNo X79.here hx rfl (hb hby at_56) rfl (flt (by decide : ¬ ((2 : Int32) < (1 : Int32)))).1 ?_
      refine XS.aload X79.here hx rfl (hb hby at_59) rfl rfl ?_
      refine XS.aload X79.here hx rfl (hb hby at_61) rfl rfl ?_
      refine XS.iloadN X79.here hx rfl (hb hby at_63) rfl ?_
      exact kt
    obtain ⟨_, _, ⟨T186, L186, k186, n186⟩, -, X186, ⟨Lc186, hQ186, l186, y186, z186⟩, st186⟩ := Jvm.LawKit.callS X79 hx (y := (⟨"java/lang/Integer", "valueOf", "(I)Ljava/lang/Integer;"⟩ : MethodName)) hown (mvT hZ (hw _ tw42)) (mvT hZ (hw _ tw43)) (mvT hZ (hw _ tw44)) (mvT hZ (hw _ tw45)) (by decide) (backOf (W := 2) (rm8 l Z a0 hw [] p3 wc clc T79.heap n0 (Nat.le_trans Z0 K82.1) O83 S_HI S_CA A_CA hcache ) hZ (hw _ tw45) (hw _ tw44) (by decide) (by decide)) (g := (mkF m 64 #[.val (.int p0), .val (.int p1), .val (.int p2), .val (.int p3), .val (.ref b10), .val (.ref b29), .val (.ref b46), .val (.ref b63), .val (.ref b80), .val (.int 2), .unset, .unset] [(.int p3), (.ref b29), (.ref b10)])) rfl (by rw [hml]; rfl) (argsL := [(.int p3)]) (rest := [(.ref b29), (.ref b10)]) (lenOf pd15 rfl) rfl (by show 2 * 0 + _ ≤ _; exact Nat.le_of_eq rfl) (hb hby at_64) (fun _ _ => ⟨rfl, rfl, (by decide : 8 + 1 ≤ _), (by decide : 22 + 1 ≤ _)⟩)
    dsimp only [Pt.U, Pt.locs, Pt.cells, Pt.slots] at X186 l186 y186 z186 st186 hQ186
    subst l186 y186 z186
    obtain ⟨b187, rfl, Nq186, Kq186, q188⟩ := hQ186
    have N186 := Fr.app N79 Nq186
    have K189 := K82.trans Kq186 all0
    have O190 := O83.keep Kq186 all0
    refine GoW.st st186 ?_
    show GoW _ _ _ _ _ _ _ (T186.setTop (mkF m 67 _ [(.ref b187), (.ref b29), (.ref b10)]))
    have c191 := ((((q21.keep Kq28).keep Kq45).keep Kq62).keep Kq79).keep Kq186
    have c192 := ((((q22.keep Kq28 nin0).keep Kq45 nin0).keep Kq62 nin0).keep Kq79 nin0).keep Kq186 nin0
    have c193 := ((((q23.keep Kq28 nin0).keep Kq45 nin0).keep Kq62 nin0).keep Kq79 nin0).keep Kq186 nin0
    have c194 := ((((q24.keep Kq28 nin0).keep Kq45 nin0).keep Kq62 nin0).keep Kq79 nin0).keep Kq186 nin0
    have c195 := ((((q25.keep Kq28 nin0).keep Kq45 nin0).keep Kq62 nin0).keep Kq79 nin0).keep Kq186 nin0
    have c196 := (((q35.keep Kq45).keep Kq62).keep Kq79).keep Kq186
    obtain ⟨cq197, kq197, q197a, q197b, q197c⟩ := isOf hZ rfl c191
    obtain ⟨_, _, ⟨T197, L197, k197, n197⟩, -, X197, hSn197, hgr197, ⟨Lc197, hQ197, l197, y197, z197⟩, st197⟩ := X186.virtualBackS hx (y := (⟨sq0, "put", sq4⟩ : MethodName)) (z := (⟨sq0, "put", sq4⟩ : MethodName)) hown (mvT hZ (hw _ tw49)) (mvT hZ (hw _ tw50)) (notFace_of_selects (args := #[]) (mvT hZ (hw _ tw52))) (mvT hZ (hw _ tw52)) (mvT hZ (hw _ tw51)) (by decide) (backOfS (s := (s.setVm s.vm)) (W := 0) (rm9_none_0_0_R l Z a0 hw [] b10 b29 b187 (0 : Int32) wcs wm wn kn T186.heap n0 (Nat.le_trans Z0 K189.1) O190 S_CS hcs M_AO S_NM E_wn V_wn c191 c192 c193 c194 c195 c196 g13 q188) hZ (hw _ tw53) (hw _ tw2) (by decide) (by decide)) q197a q197c (g := (mkF m 67 #[.val (.int p0), .val (.int p1), .val (.int p2), .val (.int p3), .val (.ref b10), .val (.ref b29), .val (.ref b46), .val (.ref b63), .val (.ref b80), .val (.int 2), .unset, .unset] [(.ref b187), (.ref b29), (.ref b10)])) rfl (by rw [hml]; rfl) (Steps.refl _) (argsL := [(.ref b29), (.ref b187)]) (rest := []) (lenOf pd18 rfl) rfl (by show 2 * 0 + _ ≤ _; exact Nat.le_of_eq rfl) (hb hby at_67) (fun _ _ => ⟨rfl, rfl, (by decide : 9 + 3 ≤ _), (by decide : 23 + 24 ≤ _)⟩)
    dsimp only [Pt.U, Pt.locs, Pt.cells, Pt.slots] at X197 l197 y197 z197 st197 hQ197 hSn197 hgr197
    subst l197 y197 z197
    have hSi := foldS hSi (Nat.le_trans (Nat.zero_le _) (Nat.le_trans (Nat.le_trans (Nat.le_trans (Nat.le_trans (Nat.le_trans (Nat.le_trans E10.1 Kq20.1) Kq28.1) Kq45.1) Kq62.1) Kq79.1) Kq186.1)) hSn197 hgr197
    have hown : T197.vm.findClass "com/example/graphweave/graphweave/json/JsonObjectClearPinLaw" = some m.cls := by rw [hSn197.1.alike.findClass]; exact hown
    have hZ : Z.Warmed39 T197.vm := State.Warmed39.trans (t := (s.setVm s.vm)) hZ hSn197.1
    have X197 : Stand p l e room_1 (s.setVm T197.vm) m #[(.int p0), (.int p1), (.int p2), (.int p3)] below meth c T197 _ _ _ := X197
    obtain ⟨b198, k199, rfl, Nq197, Kq197, q200, q201, q202, q203, q204, q205, q206, q207, q208⟩ := hQ197
    have N197 := Fr.app N186 Nq197
    have sz209 : h0.size ≤ b198 := Nat.le_trans K189.1 q200
    have g210 : n0 ≤ b198 := Nat.le_trans Z0 sz209
    have K211 := K189.trans Kq197 (allS (Or.inr sz12) all0)
    have O212 := O190.keep Kq197 (allS g13 all0)
    refine GoW.by st197 ?_
    show GoW _ _ _ _ _ _ _ (T197.setTop (mkF m 70 _ [.null]))
    refine GoW.st (t' := T197.setTop (mkF m 83 #[.val (.int p0), .val (.int p1), .val (.int p2), .val (.int p3), .val (.ref b10), .val (.ref b29), .val (.ref b46), .val (.ref b63), .val (.ref b80), .val (.int 2), .unset, .unset] [(.ref b80), (.ref b46), (.ref b10)])) (fun target kt => ?_) ?_
    · refine XS.pop X197.here hx rfl (hb hby at_70) rfl rfl ?_
      refine XS.iload X197.here hx rfl (hb hby at_71) rfl ?_
      refine XS.iconst X197.here hx rfl (hb hby at_73) ?_
      refine XS.icmpNo X197.here hx rfl (hb hby at_74) rfl (flt (by decide : ¬ ((2 : Int32) < (2 : Int32)))).1 ?_
      refine XS.aload X197.here hx rfl (hb hby at_77) rfl rfl ?_
      refine XS.aload X197.here hx rfl (hb hby at_79) rfl rfl ?_
      refine XS.aload X197.here hx rfl (hb hby at_81) rfl rfl ?_
      exact kt
    rcases Classical.em (i49 = i32) with hc213 | hc213
    · skip
      have c214 := (((q52.keep Kq62).keep Kq79).keep Kq186).keep Kq197
      have o215 : b10 < b30 := Nat.lt_of_lt_of_le A10.lt (Nat.le_trans Kq20.1 q34)
      have o216 : b30 < b46 := Nat.lt_of_lt_of_le q38.lt q50
      have o217 : b10 < b46 := Nat.lt_trans o215 o216
      have ne218 : b10 ≠ b46 := Nat.ne_of_lt o217
      have c219 := (((q53.keep Kq62 nin0).keep Kq79 nin0).keep Kq186 nin0).keep Kq197 (ninS (Ne.symm ne218) nin0)
      have c220 := (((q54.keep Kq62 nin0).keep Kq79 nin0).keep Kq186 nin0).keep Kq197 (ninS (Ne.symm ne218) nin0)
      have o221 : b30 < b47 := Nat.lt_of_lt_of_le q38.lt q51
      have o222 : b10 < b47 := Nat.lt_trans o215 o221
      have ne223 : b10 ≠ b47 := Nat.ne_of_lt o222
      have c224 := (((q55.keep Kq62 nin0).keep Kq79 nin0).keep Kq186 nin0).keep Kq197 (ninS (Ne.symm ne223) nin0)
      have c225 := c196.keep Kq197
      have o226 : b10 < b29 := Nat.lt_of_lt_of_le A10.lt (Nat.le_trans Kq20.1 q33)
      have ne227 : b10 ≠ b29 := Nat.ne_of_lt o226
      have c228 := ((((q36.keep Kq45 nin0).keep Kq62 nin0).keep Kq79 nin0).keep Kq186 nin0).keep Kq197 (ninS (Ne.symm ne227) nin0)
      have c229 := ((((q37.keep Kq45 nin0).keep Kq62 nin0).keep Kq79 nin0).keep Kq186 nin0).keep Kq197 (ninS (Ne.symm ne227) nin0)
      have ne230 : b10 ≠ b30 := Nat.ne_of_lt o215
      have c231 := ((((q38.keep Kq45 nin0).keep Kq62 nin0).keep Kq79 nin0).keep Kq186 nin0).keep Kq197 (ninS (Ne.symm ne230) nin0)
      have c232 := (q81.keep Kq186).keep Kq197
      have o233 : b29 < b46 := Nat.lt_of_lt_of_le q35.lt q50
      have ne234 : b29 ≠ b46 := Nat.ne_of_lt o233
      have o235 : b47 < b64 := Nat.lt_of_lt_of_le q55.lt q68
      have o236 : b10 < b64 := Nat.lt_trans o222 o235
      have o237 : b64 < b198 := Nat.lt_of_lt_of_le q72.lt (Nat.le_trans (Nat.le_trans Kq79.1 Kq186.1) q200)
      have o238 : b10 < b198 := Nat.lt_trans o236 o237
      have ne239 : b10 ≠ b198 := Nat.ne_of_lt o238
      obtain ⟨cq240, kq240, q240a, q240b, q240c⟩ := isOf hZ rfl q202
      obtain ⟨_, _, ⟨T240, L240, k240, n240⟩, -, X240, hSn240, hgr240, ⟨Lc240, hQ240, l240, y240, z240⟩, st240⟩ := X197.virtualBackS hx (y := (⟨sq0, "put", sq4⟩ : MethodName)) (z := (⟨sq0, "put", sq4⟩ : MethodName)) hown (mvT hZ (hw _ tw49)) (mvT hZ (hw _ tw50)) (notFace_of_selects (args := #[]) (mvT hZ (hw _ tw52))) (mvT hZ (hw _ tw52)) (mvT hZ (hw _ tw51)) (by decide) (backOfS (s := (s.setVm T197.vm)) (W := 0) (rm9_eq_1_4_R l Z a0 hw [] b10 b46 b80 ((0 : Int32) + (1 : Int32)) wcs wm b198 k199 b29 (.ref b187) b47 k48 i49 b30 k31 i32 T197.heap n0 (Nat.le_trans Z0 K211.1) O212 S_CS hcs M_AO q202 q203 q204 q205 q206 q207 q208 c214 c219 c220 c224 c225 c228 c229 c231 (Ne.symm ne234) g13 g210 q201 ne239 c232 (by first | rfl | assumption | decide | omega : (Value.ref b187).isRef = true) hc213) hZ (hw _ tw53) (hw _ tw2) (by decide) (by decide)) q240a q240c (g := (mkF m 83 #[.val (.int p0), .val (.int p1), .val (.int p2), .val (.int p3), .val (.ref b10), .val (.ref b29), .val (.ref b46), .val (.ref b63), .val (.ref b80), .val (.int 2), .unset, .unset] [(.ref b80), (.ref b46), (.ref b10)])) rfl (by rw [hml]; rfl) (Steps.refl _) (argsL := [(.ref b46), (.ref b80)]) (rest := []) (lenOf pd18 rfl) rfl (by show 2 * 0 + _ ≤ _; exact Nat.le_of_eq rfl) (hb hby at_83) (fun _ _ => ⟨rfl, rfl, (by decide : 12 + 2 ≤ _), (by decide : 47 + 20 ≤ _)⟩)
      dsimp only [Pt.U, Pt.locs, Pt.cells, Pt.slots] at X240 l240 y240 z240 st240 hQ240 hSn240 hgr240
      subst l240 y240 z240
      have hSi := foldS hSi (Nat.le_refl _) hSn240 hgr240
      have hown : T240.vm.findClass "com/example/graphweave/graphweave/json/JsonObjectClearPinLaw" = some m.cls := by rw [hSn240.1.alike.findClass]; exact hown
      have hZ : Z.Warmed39 T240.vm := State.Warmed39.trans (t := (s.setVm T197.vm)) hZ hSn240.1
      have X240 : Stand p l e room_1 (s.setVm T240.vm) m #[(.int p0), (.int p1), (.int p2), (.int p3)] below meth c T240 _ _ _ := X240
      obtain ⟨rfl, Nq240, Kq240, q241⟩ := hQ240
      have N240 := Fr.app N197 Nq240
      have K242 := K211.trans Kq240 (allS (Or.inr sz209) all0)
      have O243 := O212.keep Kq240 (allS g210 all0)
      refine GoW.by st240 ?_
      show GoW _ _ _ _ _ _ _ (T240.setTop (mkF m 86 _ [(.ref b187)]))
      refine GoW.st (t' := T240.setTop (mkF m 104 #[.val (.int p0), .val (.int p1), .val (.int p2), .val (.int p3), .val (.ref b10), .val (.ref b29), .val (.ref b46), .val (.ref b63), .val (.ref b80), .val (.int 2), .unset, .unset] [(.ref b10)])) (fun target kt => ?_) ?_
      · refine XS.pop X240.here hx rfl (hb hby at_86) rfl rfl ?_
        refine XS.iload X240.here hx rfl (hb hby at_87) rfl ?_
        refine XS.iconst X240.here hx rfl (hb hby at_89) ?_
        refine XS.icmpYes X240.here hx rfl (pc0 := 90) (pc' := 102) rfl (hb hby at_90) rfl (tlt (by decide : (2 : Int32) < (3 : Int32))).1 (by decide) (by decide) ?_
        refine XS.aload X240.here hx rfl (hb hby at_102) rfl rfl ?_
        exact kt
      have c244 := q202.keep Kq240
      have c245 := q203.keep Kq240 (ninS ne239 nin0)
      have c246 := q204.keep Kq240 (ninS ne239 nin0)
      have c247 := q205.keep Kq240 (ninS ne239 nin0)
      have c248 := q206.keep Kq240 (ninS ne239 nin0)
      have c249 := q207.keep Kq240
      obtain ⟨cq250, kq250, q250a, q250b, q250c⟩ := isOf hZ rfl c244
      obtain ⟨_, _, ⟨T250, L250, k250, n250⟩, -, X250, ⟨Lc250, hQ250, l250, y250, z250⟩, st250⟩ := X240.virtualBack hx (y := (⟨sq0, "clear", "()V"⟩ : MethodName)) (z := (⟨sq0, "clear", "()V"⟩ : MethodName)) hown (mvT hZ (hw _ tw105)) (mvT hZ (hw _ tw106)) (notFace_of_selects (args := #[]) (mvT hZ (hw _ tw108))) (mvT hZ (hw _ tw108)) (mvT hZ (hw _ tw107)) (by decide) (backOf (W := 0) (rm17_4_1 l Z a0 hw [] b10 b198 k199 (.ref b29) (.ref b80) ((0 : Int32) + (1 : Int32)) T240.heap n0 (Nat.le_trans Z0 K242.1) O243  c244 c245 c246 c247 c248 c249 q241 g13 g210 ne239) hZ (hw _ tw109) (hw _ tw2) (by decide) (by decide)) q250a q250c (g := (mkF m 104 #[.val (.int p0), .val (.int p1), .val (.int p2), .val (.int p3), .val (.ref b10), .val (.ref b29), .val (.ref b46), .val (.ref b63), .val (.ref b80), .val (.int 2), .unset, .unset] [(.ref b10)])) rfl (by rw [hml]; rfl) (Steps.refl _) (argsL := []) (rest := []) (lenOf pd0 rfl) rfl (by show 2 * 0 + _ ≤ _; exact Nat.le_of_eq rfl) (hb hby at_104) (fun _ _ => ⟨rfl, rfl, (by decide : 14 + 0 ≤ _), (by decide : 67 + 0 ≤ _)⟩)
      dsimp only [Pt.U, Pt.locs, Pt.cells, Pt.slots] at X250 l250 y250 z250 st250 hQ250
      subst l250 y250 z250
      obtain ⟨rfl, Nq250, Kq250, q251, q252, q253, q254, q255, q256, q257⟩ := hQ250
      have N250 := Fr.app N240 Nq250
      have K258 := K242.trans Kq250 (allS (Or.inr sz12) (allS (Or.inr sz209) all0))
      have O259 := O243.keep Kq250 (allS g13 (allS g210 all0))
      refine GoW.by st250 ?_
      show GoW _ _ _ _ _ _ _ (T250.setTop (mkF m 107 _ []))
      refine GoW.st (t' := T250.setTop (mkF m 109 #[.val (.int p0), .val (.int p1), .val (.int p2), .val (.int p3), .val (.ref b10), .val (.ref b29), .val (.ref b46), .val (.ref b63), .val (.ref b80), .val (.int 2), .unset, .unset] [(.ref b10)])) (fun target kt => ?_) ?_
      · refine XS.aload X250.here hx rfl (hb hby at_107) rfl rfl ?_
        exact kt
      obtain ⟨cq260, kq260, q260a, q260b, q260c⟩ := isOf hZ rfl q251
      obtain ⟨_, _, ⟨T260, L260, k260, n260⟩, -, X260, ⟨Lc260, hQ260, l260, y260, z260⟩, st260⟩ := X250.virtualBack hx (y := (⟨sq0, "size", "()I"⟩ : MethodName)) (z := (⟨sq0, "size", "()I"⟩ : MethodName)) hown (mvT hZ (hw _ tw116)) (mvT hZ (hw _ tw117)) (notFace_of_selects (args := #[]) (mvT hZ (hw _ tw119))) (mvT hZ (hw _ tw119)) (mvT hZ (hw _ tw118)) (by decide) (backOf (W := 0) (rm20 l Z a0 hw [] b10 (0 : Int32) T250.heap n0 (Nat.le_trans Z0 K258.1) O259  q254) hZ (hw _ tw120) (hw _ tw2) (by decide) (by decide)) q260a q260c (g := (mkF m 109 #[.val (.int p0), .val (.int p1), .val (.int p2), .val (.int p3), .val (.ref b10), .val (.ref b29), .val (.ref b46), .val (.ref b63), .val (.ref b80), .val (.int 2), .unset, .unset] [(.ref b10)])) rfl (by rw [hml]; rfl) (Steps.refl _) (argsL := []) (rest := []) (lenOf pd16 rfl) rfl (by show 2 * 0 + _ ≤ _; exact Nat.le_of_eq rfl) (hb hby at_109) (fun _ _ => ⟨rfl, rfl, (by decide : 14 + 0 ≤ _), (by decide : 67 + 0 ≤ _)⟩)
      dsimp only [Pt.U, Pt.locs, Pt.cells, Pt.slots] at X260 l260 y260 z260 st260 hQ260
      subst l260 y260 z260
      obtain ⟨rfl, Nq260, eq260⟩ := hQ260
      have N260 := Fr.app N250 Nq260
      refine GoW.by st260 ?_
      show GoW _ _ _ _ _ _ _ (T260.setTop (mkF m 112 _ [(.int 0)]))
      refine GoW.st (t' := T260.setTop (mkF m 119 #[.val (.int p0), .val (.int p1), .val (.int p2), .val (.int p3), .val (.ref b10), .val (.ref b29), .val (.ref b46), .val (.ref b63), .val (.ref b80), .val (.int 2), .unset, .unset] [(.ref b29), (.ref b10)])) (fun target kt => ?_) ?_
      · refine XS.ifNo X260.here hx rfl (hb hby at_112) rfl ((if0 _ _).trans (teq (by decide : (0 : Int32) = (0 : Int32))).2) ?_
        refine XS.aload X260.here hx rfl (hb hby at_115) rfl rfl ?_
        refine XS.aload X260.here hx rfl (hb hby at_117) rfl rfl ?_
        exact kt
      have c261 := (c225.keep Kq240).keep Kq250
      obtain ⟨cq262, kq262, q262a, q262b, q262c⟩ := isOf hZ eq260 q251
      obtain ⟨_, _, ⟨T262, L262, k262, n262⟩, -, X262, ⟨Lc262, hQ262, l262, y262, z262⟩, st262⟩ := X260.virtualBack hx (y := (⟨sq0, "containsKey", "(Ljava/lang/Object;)Z"⟩ : MethodName)) (z := (⟨sq0, "containsKey", "(Ljava/lang/Object;)Z"⟩ : MethodName)) hown (mvT hZ (hw _ tw121)) (mvT hZ (hw _ tw122)) (notFace_of_selects (args := #[]) (mvT hZ (hw _ tw124))) (mvT hZ (hw _ tw124)) (mvT hZ (hw _ tw123)) (by decide) (backOf (W := 0) (rm21_4 l Z a0 hw [] b10 b29 (((0 : Int32) + (1 : Int32)) + (1 : Int32)) wcs b198 k199 T250.heap n0 (Nat.le_trans Z0 K258.1) O259 S_CS hcs q251 q252 q253 q254 q255 q256 q257 c261) hZ (hw _ tw125) (hw _ tw2) (by decide) (by decide)) q262a q262c (g := (mkF m 119 #[.val (.int p0), .val (.int p1), .val (.int p2), .val (.int p3), .val (.ref b10), .val (.ref b29), .val (.ref b46), .val (.ref b63), .val (.ref b80), .val (.int 2), .unset, .unset] [(.ref b29), (.ref b10)])) rfl (by rw [hml]; rfl) (Steps.refl _) (argsL := [(.ref b29)]) (rest := []) (lenOf pd6 rfl) rfl (by show 2 * 0 + _ ≤ _; exact Nat.le_of_eq rfl) (hb hby at_119) (fun _ _ => ⟨rfl, eq260, (by decide : 14 + 0 ≤ _), (by decide : 67 + 0 ≤ _)⟩)
      dsimp only [Pt.U, Pt.locs, Pt.cells, Pt.slots] at X262 l262 y262 z262 st262 hQ262
      subst l262 y262 z262
      obtain ⟨rfl, Nq262, eq262⟩ := hQ262
      have N262 := Fr.app N260 Nq262
      refine GoW.by st262 ?_
      show GoW _ _ _ _ _ _ _ (T262.setTop (mkF m 122 _ [(.int 0)]))
      refine GoW.st (t' := T262.setTop (mkF m 129 #[.val (.int p0), .val (.int p1), .val (.int p2), .val (.int p3), .val (.ref b10), .val (.ref b29), .val (.ref b46), .val (.ref b63), .val (.ref b80), .val (.int 2), .unset, .unset] [(.ref b46), (.ref b10)])) (fun target kt => ?_) ?_
      · refine XS.ifNo X262.here hx rfl (hb hby at_122) rfl ((if0 _ _).trans (teq (by decide : (0 : Int32) = (0 : Int32))).2) ?_
        refine XS.aload X262.here hx rfl (hb hby at_125) rfl rfl ?_
        refine XS.aload X262.here hx rfl (hb hby at_127) rfl rfl ?_
        exact kt
      have c263 := (c214.keep Kq240).keep Kq250
      obtain ⟨cq264, kq264, q264a, q264b, q264c⟩ := isOf hZ eq262 q251
      obtain ⟨_, _, ⟨T264, L264, k264, n264⟩, -, X264, ⟨Lc264, hQ264, l264, y264, z264⟩, st264⟩ := X262.virtualBack hx (y := (⟨sq0, "get", "(Ljava/lang/Object;)Ljava/lang/Object;"⟩ : MethodName)) (z := (⟨sq0, "get", "(Ljava/lang/Object;)Ljava/lang/Object;"⟩ : MethodName)) hown (mvT hZ (hw _ tw126)) (mvT hZ (hw _ tw127)) (notFace_of_selects (args := #[]) (mvT hZ (hw _ tw129))) (mvT hZ (hw _ tw129)) (mvT hZ (hw _ tw128)) (by decide) (backOf (W := 0) (rm22_none_4 l Z a0 hw [] b10 b46 (((0 : Int32) + (1 : Int32)) + (1 : Int32)) wcs b198 k199 T250.heap n0 (Nat.le_trans Z0 K258.1) O259 S_CS hcs q251 q252 q253 q254 q255 q256 q257 c263) hZ (hw _ tw130) (hw _ tw2) (by decide) (by decide)) q264a q264c (g := (mkF m 129 #[.val (.int p0), .val (.int p1), .val (.int p2), .val (.int p3), .val (.ref b10), .val (.ref b29), .val (.ref b46), .val (.ref b63), .val (.ref b80), .val (.int 2), .unset, .unset] [(.ref b46), (.ref b10)])) rfl (by rw [hml]; rfl) (Steps.refl _) (argsL := [(.ref b46)]) (rest := []) (lenOf pd17 rfl) rfl (by show 2 * 0 + _ ≤ _; exact Nat.le_of_eq rfl) (hb hby at_129) (fun _ _ => ⟨rfl, eq262, (by decide : 14 + 0 ≤ _), (by decide : 67 + 0 ≤ _)⟩)
      dsimp only [Pt.U, Pt.locs, Pt.cells, Pt.slots] at X264 l264 y264 z264 st264 hQ264
      subst l264 y264 z264
      obtain ⟨rfl, Nq264, eq264⟩ := hQ264
      have N264 := Fr.app N262 Nq264
      refine GoW.by st264 ?_
      show GoW _ _ _ _ _ _ _ (T264.setTop (mkF m 132 _ [.null]))
      refine GoW.st (t' := T264.setTop (mkF m 148 #[.val (.int p0), .val (.int p1), .val (.int p2), .val (.int p3), .val (.ref b10), .val (.ref b29), .val (.ref b46), .val (.ref b63), .val (.ref b80), .val (.int 2), .val (.int 1), .unset] [(.ref b80), (.ref b46), (.ref b10)])) (fun target kt => ?_) ?_
      · refine XS.ifnonnullNo X264.here hx rfl (hb hby at_132) rfl ?_
        refine XS.iconst X264.here hx rfl (hb hby at_135) ?_
        refine XS.goto X264.here hx rfl (pc0 := 136) (pc' := 140) rfl (hb hby at_136) (by decide) (by decide) ?_
        refine XS.istore X264.here hx rfl (hb hby at_140) rfl (l' := #[.val (.int p0), .val (.int p1), .val (.int p2), .val (.int p3), .val (.ref b10), .val (.ref b29), .val (.ref b46), .val (.ref b63), .val (.ref b80), .val (.int 2), .val (.int 1), .unset]) rfl ?_
        refine XS.aload X264.here hx rfl (hb hby at_142) rfl rfl ?_
        refine XS.aload X264.here hx rfl (hb hby at_144) rfl rfl ?_
        refine XS.aload X264.here hx rfl (hb hby at_146) rfl rfl ?_
        exact kt
      have c265 := (c232.keep Kq240).keep Kq250
      obtain ⟨cq266, kq266, q266a, q266b, q266c⟩ := isOf hZ eq264 q251
      obtain ⟨_, _, ⟨T266, L266, k266, n266⟩, -, X266, hSn266, hgr266, ⟨Lc266, hQ266, l266, y266, z266⟩, st266⟩ := X264.virtualBackS hx (y := (⟨sq0, "put", sq4⟩ : MethodName)) (z := (⟨sq0, "put", sq4⟩ : MethodName)) hown (mvT hZ (hw _ tw49)) (mvT hZ (hw _ tw50)) (notFace_of_selects (args := #[]) (mvT hZ (hw _ tw52))) (mvT hZ (hw _ tw52)) (mvT hZ (hw _ tw51)) (by decide) (backOfS (s := (s.setVm T240.vm)) (W := 0) (rm9_none_0_4_R l Z a0 hw [] b10 b46 b80 (((0 : Int32) + (1 : Int32)) + (1 : Int32)) wcs wm b198 k199 T250.heap n0 (Nat.le_trans Z0 K258.1) O259 S_CS hcs M_AO q251 q252 q253 q254 q255 q256 q257 c263 g13 g210 q201 ne239 c265) hZ (hw _ tw53) (hw _ tw2) (by decide) (by decide)) q266a q266c (g := (mkF m 148 #[.val (.int p0), .val (.int p1), .val (.int p2), .val (.int p3), .val (.ref b10), .val (.ref b29), .val (.ref b46), .val (.ref b63), .val (.ref b80), .val (.int 2), .val (.int 1), .unset] [(.ref b80), (.ref b46), (.ref b10)])) rfl (by rw [hml]; rfl) (Steps.refl _) (argsL := [(.ref b46), (.ref b80)]) (rest := []) (lenOf pd18 rfl) rfl (by show 2 * 0 + _ ≤ _; exact Nat.le_of_eq rfl) (hb hby at_148) (fun _ _ => ⟨rfl, eq264, (by decide : 14 + 2 ≤ _), (by decide : 67 + 20 ≤ _)⟩)
      dsimp only [Pt.U, Pt.locs, Pt.cells, Pt.slots] at X266 l266 y266 z266 st266 hQ266 hSn266 hgr266
      subst l266 y266 z266
      have hSi := foldS hSi (by rw [eq264]; exact (Nat.le_trans (Nat.le_refl _) Kq250.1)) hSn266 hgr266
      have hown : T266.vm.findClass "com/example/graphweave/graphweave/json/JsonObjectClearPinLaw" = some m.cls := by rw [hSn266.1.alike.findClass]; exact hown
      have hZ : Z.Warmed39 T266.vm := State.Warmed39.trans (t := (s.setVm T240.vm)) hZ hSn266.1
      have X266 : Stand p l e room_1 (s.setVm T266.vm) m #[(.int p0), (.int p1), (.int p2), (.int p3)] below meth c T266 _ _ _ := X266
      obtain ⟨rfl, Nq266, Kq266, q267, q268, q269, q270, q271, q272, q273⟩ := hQ266
      have N266 := Fr.app N264 Nq266
      have K274 := K258.trans Kq266 (allS (Or.inr sz12) (allS (Or.inr sz209) all0))
      have O275 := O259.keep Kq266 (allS g13 (allS g210 all0))
      refine GoW.by st266 ?_
      show GoW _ _ _ _ _ _ _ (T266.setTop (mkF m 151 _ [.null]))
      refine GoW.st (t' := T266.setTop (mkF m 165 #[.val (.int p0), .val (.int p1), .val (.int p2), .val (.int p3), .val (.ref b10), .val (.ref b29), .val (.ref b46), .val (.ref b63), .val (.ref b80), .val (.int 2), .val (.int 1), .val .null] [(.ref b10)])) (fun target kt => ?_) ?_
      · refine XS.astore X266.here hx rfl (hb hby at_151) rfl rfl (l' := #[.val (.int p0), .val (.int p1), .val (.int p2), .val (.int p3), .val (.ref b10), .val (.ref b29), .val (.ref b46), .val (.ref b63), .val (.ref b80), .val (.int 2), .val (.int 1), .val .null]) rfl ?_
        refine XS.iload X266.here hx rfl (hb hby at_153) rfl ?_
        refine XS.ifNo X266.here hx rfl (hb hby at_155) rfl ((if0 _ _).trans (feq (by decide : ¬ ((1 : Int32) = (0 : Int32)))).1) ?_
        refine XS.aload X266.here hx rfl (hb hby at_158) rfl rfl ?_
        refine XS.ifnonnullNo X266.here hx rfl (hb hby at_160) rfl ?_
        refine XS.aload X266.here hx rfl (hb hby at_163) rfl rfl ?_
        exact kt
      obtain ⟨cq276, kq276, q276a, q276b, q276c⟩ := isOf hZ rfl q267
      obtain ⟨_, _, ⟨T276, L276, k276, n276⟩, -, X276, ⟨Lc276, hQ276, l276, y276, z276⟩, st276⟩ := X266.virtualBack hx (y := (⟨sq0, "size", "()I"⟩ : MethodName)) (z := (⟨sq0, "size", "()I"⟩ : MethodName)) hown (mvT hZ (hw _ tw116)) (mvT hZ (hw _ tw117)) (notFace_of_selects (args := #[]) (mvT hZ (hw _ tw119))) (mvT hZ (hw _ tw119)) (mvT hZ (hw _ tw118)) (by decide) (backOf (W := 0) (rm20 l Z a0 hw [] b10 (1 : Int32) T266.heap n0 (Nat.le_trans Z0 K274.1) O275  q270) hZ (hw _ tw120) (hw _ tw2) (by decide) (by decide)) q276a q276c (g := (mkF m 165 #[.val (.int p0), .val (.int p1), .val (.int p2), .val (.int p3), .val (.ref b10), .val (.ref b29), .val (.ref b46), .val (.ref b63), .val (.ref b80), .val (.int 2), .val (.int 1), .val .null] [(.ref b10)])) rfl (by rw [hml]; rfl) (Steps.refl _) (argsL := []) (rest := []) (lenOf pd16 rfl) rfl (by show 2 * 0 + _ ≤ _; exact Nat.le_of_eq rfl) (hb hby at_165) (fun _ _ => ⟨rfl, rfl, (by decide : 16 + 0 ≤ _), (by decide : 87 + 0 ≤ _)⟩)
      dsimp only [Pt.U, Pt.locs, Pt.cells, Pt.slots] at X276 l276 y276 z276 st276 hQ276
      subst l276 y276 z276
      obtain ⟨rfl, Nq276, eq276⟩ := hQ276
      have N276 := Fr.app N266 Nq276
      refine GoW.by st276 ?_
      show GoW _ _ _ _ _ _ _ (T276.setTop (mkF m 168 _ [(.int 1)]))
      refine GoW.st (t' := T276.setTop (mkF m 176 #[.val (.int p0), .val (.int p1), .val (.int p2), .val (.int p3), .val (.ref b10), .val (.ref b29), .val (.ref b46), .val (.ref b63), .val (.ref b80), .val (.int 2), .val (.int 1), .val .null] [(.ref b46), (.ref b10)])) (fun target kt => ?_) ?_
      · refine XS.iconst X276.here hx rfl (hb hby at_168) ?_
        refine XS.icmpNo X276.here hx rfl (hb hby at_169) rfl (teq (by decide : (1 : Int32) = (1 : Int32))).2 ?_
        refine XS.aload X276.here hx rfl (hb hby at_172) rfl rfl ?_
        refine XS.aload X276.here hx rfl (hb hby at_174) rfl rfl ?_
        exact kt
      have c277 := c263.keep Kq266
      obtain ⟨cq278, kq278, q278a, q278b, q278c⟩ := isOf hZ eq276 q267
      obtain ⟨_, _, ⟨T278, L278, k278, n278⟩, -, X278, ⟨Lc278, hQ278, l278, y278, z278⟩, st278⟩ := X276.virtualBack hx (y := (⟨sq0, "get", "(Ljava/lang/Object;)Ljava/lang/Object;"⟩ : MethodName)) (z := (⟨sq0, "get", "(Ljava/lang/Object;)Ljava/lang/Object;"⟩ : MethodName)) hown (mvT hZ (hw _ tw126)) (mvT hZ (hw _ tw127)) (notFace_of_selects (args := #[]) (mvT hZ (hw _ tw129))) (mvT hZ (hw _ tw129)) (mvT hZ (hw _ tw128)) (by decide) (backOf (W := 0) (rm22_same_4 l Z a0 hw [] b10 b46 ((((0 : Int32) + (1 : Int32)) + (1 : Int32)) + (1 : Int32)) wcs b198 k199 b80 T266.heap n0 (Nat.le_trans Z0 K274.1) O275 S_CS hcs q267 q268 q269 q270 q271 q272 q273 c277) hZ (hw _ tw130) (hw _ tw2) (by decide) (by decide)) q278a q278c (g := (mkF m 176 #[.val (.int p0), .val (.int p1), .val (.int p2), .val (.int p3), .val (.ref b10), .val (.ref b29), .val (.ref b46), .val (.ref b63), .val (.ref b80), .val (.int 2), .val (.int 1), .val .null] [(.ref b46), (.ref b10)])) rfl (by rw [hml]; rfl) (Steps.refl _) (argsL := [(.ref b46)]) (rest := []) (lenOf pd17 rfl) rfl (by show 2 * 0 + _ ≤ _; exact Nat.le_of_eq rfl) (hb hby at_176) (fun _ _ => ⟨rfl, eq276, (by decide : 16 + 0 ≤ _), (by decide : 87 + 0 ≤ _)⟩)
      dsimp only [Pt.U, Pt.locs, Pt.cells, Pt.slots] at X278 l278 y278 z278 st278 hQ278
      subst l278 y278 z278
      obtain ⟨rfl, Nq278, eq278⟩ := hQ278
      have N278 := Fr.app N276 Nq278
      refine GoW.by st278 ?_
      show GoW _ _ _ _ _ _ _ (T278.setTop (mkF m 179 _ [(.ref b80)]))
      refine GoW.st (t' := T278.setTop (mkF m 189 #[.val (.int p0), .val (.int p1), .val (.int p2), .val (.int p3), .val (.ref b10), .val (.ref b29), .val (.ref b46), .val (.ref b63), .val (.ref b80), .val (.int 2), .val (.int 1), .val .null] [(.int 1)])) (fun target kt => ?_) ?_
      · refine XS.aload X278.here hx rfl (hb hby at_179) rfl rfl ?_
        refine Jvm.RoadKit.acmp (g := (mkF m 181 #[.val (.int p0), .val (.int p1), .val (.int p2), .val (.int p3), .val (.ref b10), .val (.ref b29), .val (.ref b46), .val (.ref b63), .val (.ref b80), .val (.int 2), .val (.int 1), .val .null] [(.ref b80), (.ref b80)])) X278 hx rfl rfl rfl (pc0 := 181) (pc' := 184) (same := true) rfl (hb hby at_181) rfl (decide_eq_true rfl) (by decide) (by decide) ?_
        refine XS.iconst X278.here hx rfl (hb hby at_184) ?_
        refine XS.goto X278.here hx rfl (pc0 := 185) (pc' := 189) rfl (hb hby at_185) (by decide) (by decide) ?_
        exact kt
      refine GoW.ret X278 hSi (by rw [eq278]; exact (Nat.le_refl _)) (v := some (.int 1)) (fun h => by rw [hret] at h; cases h) hlk (fun fs hr => retN X278 hx (t := .boolean) hret (by simp) (hb hby at_189) hr) ?_ (by decide) (by decide)
      show Q0 Z p0 p1 p2 p3 wn kn wm wcs wc clc h0 n0 _ T278.heap _
      rw [eq278]
      exact ⟨rfl, N278, K274⟩
    · skip
      have c279 := (((q52.keep Kq62).keep Kq79).keep Kq186).keep Kq197
      have o280 : b10 < b30 := Nat.lt_of_lt_of_le A10.lt (Nat.le_trans Kq20.1 q34)
      have o281 : b30 < b46 := Nat.lt_of_lt_of_le q38.lt q50
      have o282 : b10 < b46 := Nat.lt_trans o280 o281
      have ne283 : b10 ≠ b46 := Nat.ne_of_lt o282
      have c284 := (((q53.keep Kq62 nin0).keep Kq79 nin0).keep Kq186 nin0).keep Kq197 (ninS (Ne.symm ne283) nin0)
      have c285 := (((q54.keep Kq62 nin0).keep Kq79 nin0).keep Kq186 nin0).keep Kq197 (ninS (Ne.symm ne283) nin0)
      have o286 : b30 < b47 := Nat.lt_of_lt_of_le q38.lt q51
      have o287 : b10 < b47 := Nat.lt_trans o280 o286
      have ne288 : b10 ≠ b47 := Nat.ne_of_lt o287
      have c289 := (((q55.keep Kq62 nin0).keep Kq79 nin0).keep Kq186 nin0).keep Kq197 (ninS (Ne.symm ne288) nin0)
      have c290 := c196.keep Kq197
      have o291 : b10 < b29 := Nat.lt_of_lt_of_le A10.lt (Nat.le_trans Kq20.1 q33)
      have ne292 : b10 ≠ b29 := Nat.ne_of_lt o291
      have c293 := ((((q36.keep Kq45 nin0).keep Kq62 nin0).keep Kq79 nin0).keep Kq186 nin0).keep Kq197 (ninS (Ne.symm ne292) nin0)
      have c294 := ((((q37.keep Kq45 nin0).keep Kq62 nin0).keep Kq79 nin0).keep Kq186 nin0).keep Kq197 (ninS (Ne.symm ne292) nin0)
      have ne295 : b10 ≠ b30 := Nat.ne_of_lt o280
      have c296 := ((((q38.keep Kq45 nin0).keep Kq62 nin0).keep Kq79 nin0).keep Kq186 nin0).keep Kq197 (ninS (Ne.symm ne295) nin0)
      have c297 := (q81.keep Kq186).keep Kq197
      have o298 : b29 < b46 := Nat.lt_of_lt_of_le q35.lt q50
      have ne299 : b29 ≠ b46 := Nat.ne_of_lt o298
      have o300 : b47 < b64 := Nat.lt_of_lt_of_le q55.lt q68
      have o301 : b10 < b64 := Nat.lt_trans o287 o300
      have o302 : b64 < b198 := Nat.lt_of_lt_of_le q72.lt (Nat.le_trans (Nat.le_trans Kq79.1 Kq186.1) q200)
      have o303 : b10 < b198 := Nat.lt_trans o301 o302
      have ne304 : b10 ≠ b198 := Nat.ne_of_lt o303
      obtain ⟨cq305, kq305, q305a, q305b, q305c⟩ := isOf hZ rfl q202
      obtain ⟨_, _, ⟨T305, L305, k305, n305⟩, -, X305, hSn305, hgr305, ⟨Lc305, hQ305, l305, y305, z305⟩, st305⟩ := X197.virtualBackS hx (y := (⟨sq0, "put", sq4⟩ : MethodName)) (z := (⟨sq0, "put", sq4⟩ : MethodName)) hown (mvT hZ (hw _ tw49)) (mvT hZ (hw _ tw50)) (notFace_of_selects (args := #[]) (mvT hZ (hw _ tw52))) (mvT hZ (hw _ tw52)) (mvT hZ (hw _ tw51)) (by decide) (backOfS (s := (s.setVm T197.vm)) (W := 0) (rm9_ne_1_4_R l Z a0 hw [] b10 b46 b80 ((0 : Int32) + (1 : Int32)) wcs wm b198 k199 b29 (.ref b187) b47 k48 i49 b30 k31 i32 T197.heap n0 (Nat.le_trans Z0 K211.1) O212 S_CS hcs M_AO q202 q203 q204 q205 q206 q207 q208 c279 c284 c285 c289 c290 c293 c294 c296 (Ne.symm ne299) g13 g210 q201 ne304 c297 hc213) hZ (hw _ tw53) (hw _ tw2) (by decide) (by decide)) q305a q305c (g := (mkF m 83 #[.val (.int p0), .val (.int p1), .val (.int p2), .val (.int p3), .val (.ref b10), .val (.ref b29), .val (.ref b46), .val (.ref b63), .val (.ref b80), .val (.int 2), .unset, .unset] [(.ref b80), (.ref b46), (.ref b10)])) rfl (by rw [hml]; rfl) (Steps.refl _) (argsL := [(.ref b46), (.ref b80)]) (rest := []) (lenOf pd18 rfl) rfl (by show 2 * 0 + _ ≤ _; exact Nat.le_of_eq rfl) (hb hby at_83) (fun _ _ => ⟨rfl, rfl, (by decide : 12 + 2 ≤ _), (by decide : 47 + 20 ≤ _)⟩)
      dsimp only [Pt.U, Pt.locs, Pt.cells, Pt.slots] at X305 l305 y305 z305 st305 hQ305 hSn305 hgr305
      subst l305 y305 z305
      have hSi := foldS hSi (Nat.le_refl _) hSn305 hgr305
      have hown : T305.vm.findClass "com/example/graphweave/graphweave/json/JsonObjectClearPinLaw" = some m.cls := by rw [hSn305.1.alike.findClass]; exact hown
      have hZ : Z.Warmed39 T305.vm := State.Warmed39.trans (t := (s.setVm T197.vm)) hZ hSn305.1
      have X305 : Stand p l e room_1 (s.setVm T305.vm) m #[(.int p0), (.int p1), (.int p2), (.int p3)] below meth c T305 _ _ _ := X305
      obtain ⟨rfl, Nq305, Kq305, q306, q307, q308, q309, q310, q311, q312⟩ := hQ305
      have N305 := Fr.app N197 Nq305
      have K313 := K211.trans Kq305 (allS (Or.inr sz12) (allS (Or.inr sz209) all0))
      have O314 := O212.keep Kq305 (allS g13 (allS g210 all0))
      refine GoW.by st305 ?_
      show GoW _ _ _ _ _ _ _ (T305.setTop (mkF m 86 _ [.null]))
      refine GoW.st (t' := T305.setTop (mkF m 104 #[.val (.int p0), .val (.int p1), .val (.int p2), .val (.int p3), .val (.ref b10), .val (.ref b29), .val (.ref b46), .val (.ref b63), .val (.ref b80), .val (.int 2), .unset, .unset] [(.ref b10)])) (fun target kt => ?_) ?_
      · refine XS.pop X305.here hx rfl (hb hby at_86) rfl rfl ?_
        refine XS.iload X305.here hx rfl (hb hby at_87) rfl ?_
        refine XS.iconst X305.here hx rfl (hb hby at_89) ?_
        refine XS.icmpYes X305.here hx rfl (pc0 := 90) (pc' := 102) rfl (hb hby at_90) rfl (tlt (by decide : (2 : Int32) < (3 : Int32))).1 (by decide) (by decide) ?_
        refine XS.aload X305.here hx rfl (hb hby at_102) rfl rfl ?_
        exact kt
      obtain ⟨cq315, kq315, q315a, q315b, q315c⟩ := isOf hZ rfl q306
      obtain ⟨_, _, ⟨T315, L315, k315, n315⟩, -, X315, ⟨Lc315, hQ315, l315, y315, z315⟩, st315⟩ := X305.virtualBack hx (y := (⟨sq0, "clear", "()V"⟩ : MethodName)) (z := (⟨sq0, "clear", "()V"⟩ : MethodName)) hown (mvT hZ (hw _ tw105)) (mvT hZ (hw _ tw106)) (notFace_of_selects (args := #[]) (mvT hZ (hw _ tw108))) (mvT hZ (hw _ tw108)) (mvT hZ (hw _ tw107)) (by decide) (backOf (W := 0) (rm17_4_2 l Z a0 hw [] b10 b198 k199 (.ref b29) (.ref b187) (.ref b46) (.ref b80) (((0 : Int32) + (1 : Int32)) + (1 : Int32)) T305.heap n0 (Nat.le_trans Z0 K313.1) O314  q306 q307 q308 q309 q310 q311 q312 g13 g210 ne304) hZ (hw _ tw109) (hw _ tw2) (by decide) (by decide)) q315a q315c (g := (mkF m 104 #[.val (.int p0), .val (.int p1), .val (.int p2), .val (.int p3), .val (.ref b10), .val (.ref b29), .val (.ref b46), .val (.ref b63), .val (.ref b80), .val (.int 2), .unset, .unset] [(.ref b10)])) rfl (by rw [hml]; rfl) (Steps.refl _) (argsL := []) (rest := []) (lenOf pd0 rfl) rfl (by show 2 * 0 + _ ≤ _; exact Nat.le_of_eq rfl) (hb hby at_104) (fun _ _ => ⟨rfl, rfl, (by decide : 14 + 0 ≤ _), (by decide : 67 + 0 ≤ _)⟩)
      dsimp only [Pt.U, Pt.locs, Pt.cells, Pt.slots] at X315 l315 y315 z315 st315 hQ315
      subst l315 y315 z315
      obtain ⟨rfl, Nq315, Kq315, q316, q317, q318, q319, q320, q321, q322⟩ := hQ315
      have N315 := Fr.app N305 Nq315
      have K323 := K313.trans Kq315 (allS (Or.inr sz12) (allS (Or.inr sz209) all0))
      have O324 := O314.keep Kq315 (allS g13 (allS g210 all0))
      refine GoW.by st315 ?_
      show GoW _ _ _ _ _ _ _ (T315.setTop (mkF m 107 _ []))
      refine GoW.st (t' := T315.setTop (mkF m 109 #[.val (.int p0), .val (.int p1), .val (.int p2), .val (.int p3), .val (.ref b10), .val (.ref b29), .val (.ref b46), .val (.ref b63), .val (.ref b80), .val (.int 2), .unset, .unset] [(.ref b10)])) (fun target kt => ?_) ?_
      · refine XS.aload X315.here hx rfl (hb hby at_107) rfl rfl ?_
        exact kt
      obtain ⟨cq325, kq325, q325a, q325b, q325c⟩ := isOf hZ rfl q316
      obtain ⟨_, _, ⟨T325, L325, k325, n325⟩, -, X325, ⟨Lc325, hQ325, l325, y325, z325⟩, st325⟩ := X315.virtualBack hx (y := (⟨sq0, "size", "()I"⟩ : MethodName)) (z := (⟨sq0, "size", "()I"⟩ : MethodName)) hown (mvT hZ (hw _ tw116)) (mvT hZ (hw _ tw117)) (notFace_of_selects (args := #[]) (mvT hZ (hw _ tw119))) (mvT hZ (hw _ tw119)) (mvT hZ (hw _ tw118)) (by decide) (backOf (W := 0) (rm20 l Z a0 hw [] b10 (0 : Int32) T315.heap n0 (Nat.le_trans Z0 K323.1) O324  q319) hZ (hw _ tw120) (hw _ tw2) (by decide) (by decide)) q325a q325c (g := (mkF m 109 #[.val (.int p0), .val (.int p1), .val (.int p2), .val (.int p3), .val (.ref b10), .val (.ref b29), .val (.ref b46), .val (.ref b63), .val (.ref b80), .val (.int 2), .unset, .unset] [(.ref b10)])) rfl (by rw [hml]; rfl) (Steps.refl _) (argsL := []) (rest := []) (lenOf pd16 rfl) rfl (by show 2 * 0 + _ ≤ _; exact Nat.le_of_eq rfl) (hb hby at_109) (fun _ _ => ⟨rfl, rfl, (by decide : 14 + 0 ≤ _), (by decide : 67 + 0 ≤ _)⟩)
      dsimp only [Pt.U, Pt.locs, Pt.cells, Pt.slots] at X325 l325 y325 z325 st325 hQ325
      subst l325 y325 z325
      obtain ⟨rfl, Nq325, eq325⟩ := hQ325
      have N325 := Fr.app N315 Nq325
      refine GoW.by st325 ?_
      show GoW _ _ _ _ _ _ _ (T325.setTop (mkF m 112 _ [(.int 0)]))
      refine GoW.st (t' := T325.setTop (mkF m 119 #[.val (.int p0), .val (.int p1), .val (.int p2), .val (.int p3), .val (.ref b10), .val (.ref b29), .val (.ref b46), .val (.ref b63), .val (.ref b80), .val (.int 2), .unset, .unset] [(.ref b29), (.ref b10)])) (fun target kt => ?_) ?_
      · refine XS.ifNo X325.here hx rfl (hb hby at_112) rfl ((if0 _ _).trans (teq (by decide : (0 : Int32) = (0 : Int32))).2) ?_
        refine XS.aload X325.here hx rfl (hb hby at_115) rfl rfl ?_
        refine XS.aload X325.here hx rfl (hb hby at_117) rfl rfl ?_
        exact kt
      have c326 := (c290.keep Kq305).keep Kq315
      obtain ⟨cq327, kq327, q327a, q327b, q327c⟩ := isOf hZ eq325 q316
      obtain ⟨_, _, ⟨T327, L327, k327, n327⟩, -, X327, ⟨Lc327, hQ327, l327, y327, z327⟩, st327⟩ := X325.virtualBack hx (y := (⟨sq0, "containsKey", "(Ljava/lang/Object;)Z"⟩ : MethodName)) (z := (⟨sq0, "containsKey", "(Ljava/lang/Object;)Z"⟩ : MethodName)) hown (mvT hZ (hw _ tw121)) (mvT hZ (hw _ tw122)) (notFace_of_selects (args := #[]) (mvT hZ (hw _ tw124))) (mvT hZ (hw _ tw124)) (mvT hZ (hw _ tw123)) (by decide) (backOf (W := 0) (rm21_4 l Z a0 hw [] b10 b29 ((((0 : Int32) + (1 : Int32)) + (1 : Int32)) + (1 : Int32)) wcs b198 k199 T315.heap n0 (Nat.le_trans Z0 K323.1) O324 S_CS hcs q316 q317 q318 q319 q320 q321 q322 c326) hZ (hw _ tw125) (hw _ tw2) (by decide) (by decide)) q327a q327c (g := (mkF m 119 #[.val (.int p0), .val (.int p1), .val (.int p2), .val (.int p3), .val (.ref b10), .val (.ref b29), .val (.ref b46), .val (.ref b63), .val (.ref b80), .val (.int 2), .unset, .unset] [(.ref b29), (.ref b10)])) rfl (by rw [hml]; rfl) (Steps.refl _) (argsL := [(.ref b29)]) (rest := []) (lenOf pd6 rfl) rfl (by show 2 * 0 + _ ≤ _; exact Nat.le_of_eq rfl) (hb hby at_119) (fun _ _ => ⟨rfl, eq325, (by decide : 14 + 0 ≤ _), (by decide : 67 + 0 ≤ _)⟩)
      dsimp only [Pt.U, Pt.locs, Pt.cells, Pt.slots] at X327 l327 y327 z327 st327 hQ327
      subst l327 y327 z327
      obtain ⟨rfl, Nq327, eq327⟩ := hQ327
      have N327 := Fr.app N325 Nq327
      refine GoW.by st327 ?_
      show GoW _ _ _ _ _ _ _ (T327.setTop (mkF m 122 _ [(.int 0)]))
      refine GoW.st (t' := T327.setTop (mkF m 129 #[.val (.int p0), .val (.int p1), .val (.int p2), .val (.int p3), .val (.ref b10), .val (.ref b29), .val (.ref b46), .val (.ref b63), .val (.ref b80), .val (.int 2), .unset, .unset] [(.ref b46), (.ref b10)])) (fun target kt => ?_) ?_
      · refine XS.ifNo X327.here hx rfl (hb hby at_122) rfl ((if0 _ _).trans (teq (by decide : (0 : Int32) = (0 : Int32))).2) ?_
        refine XS.aload X327.here hx rfl (hb hby at_125) rfl rfl ?_
        refine XS.aload X327.here hx rfl (hb hby at_127) rfl rfl ?_
        exact kt
      have c328 := (c279.keep Kq305).keep Kq315
      obtain ⟨cq329, kq329, q329a, q329b, q329c⟩ := isOf hZ eq327 q316
      obtain ⟨_, _, ⟨T329, L329, k329, n329⟩, -, X329, ⟨Lc329, hQ329, l329, y329, z329⟩, st329⟩ := X327.virtualBack hx (y := (⟨sq0, "get", "(Ljava/lang/Object;)Ljava/lang/Object;"⟩ : MethodName)) (z := (⟨sq0, "get", "(Ljava/lang/Object;)Ljava/lang/Object;"⟩ : MethodName)) hown (mvT hZ (hw _ tw126)) (mvT hZ (hw _ tw127)) (notFace_of_selects (args := #[]) (mvT hZ (hw _ tw129))) (mvT hZ (hw _ tw129)) (mvT hZ (hw _ tw128)) (by decide) (backOf (W := 0) (rm22_none_4 l Z a0 hw [] b10 b46 ((((0 : Int32) + (1 : Int32)) + (1 : Int32)) + (1 : Int32)) wcs b198 k199 T315.heap n0 (Nat.le_trans Z0 K323.1) O324 S_CS hcs q316 q317 q318 q319 q320 q321 q322 c328) hZ (hw _ tw130) (hw _ tw2) (by decide) (by decide)) q329a q329c (g := (mkF m 129 #[.val (.int p0), .val (.int p1), .val (.int p2), .val (.int p3), .val (.ref b10), .val (.ref b29), .val (.ref b46), .val (.ref b63), .val (.ref b80), .val (.int 2), .unset, .unset] [(.ref b46), (.ref b10)])) rfl (by rw [hml]; rfl) (Steps.refl _) (argsL := [(.ref b46)]) (rest := []) (lenOf pd17 rfl) rfl (by show 2 * 0 + _ ≤ _; exact Nat.le_of_eq rfl) (hb hby at_129) (fun _ _ => ⟨rfl, eq327, (by decide : 14 + 0 ≤ _), (by decide : 67 + 0 ≤ _)⟩)
      dsimp only [Pt.U, Pt.locs, Pt.cells, Pt.slots] at X329 l329 y329 z329 st329 hQ329
      subst l329 y329 z329
      obtain ⟨rfl, Nq329, eq329⟩ := hQ329
      have N329 := Fr.app N327 Nq329
      refine GoW.by st329 ?_
      show GoW _ _ _ _ _ _ _ (T329.setTop (mkF m 132 _ [.null]))
      refine GoW.st (t' := T329.setTop (mkF m 148 #[.val (.int p0), .val (.int p1), .val (.int p2), .val (.int p3), .val (.ref b10), .val (.ref b29), .val (.ref b46), .val (.ref b63), .val (.ref b80), .val (.int 2), .val (.int 1), .unset] [(.ref b80), (.ref b46), (.ref b10)])) (fun target kt => ?_) ?_
      · refine XS.ifnonnullNo X329.here hx rfl (hb hby at_132) rfl ?_
        refine XS.iconst X329.here hx rfl (hb hby at_135) ?_
        refine XS.goto X329.here hx rfl (pc0 := 136) (pc' := 140) rfl (hb hby at_136) (by decide) (by decide) ?_
        refine XS.istore X329.here hx rfl (hb hby at_140) rfl (l' := #[.val (.int p0), .val (.int p1), .val (.int p2), .val (.int p3), .val (.ref b10), .val (.ref b29), .val (.ref b46), .val (.ref b63), .val (.ref b80), .val (.int 2), .val (.int 1), .unset]) rfl ?_
        refine XS.aload X329.here hx rfl (hb hby at_142) rfl rfl ?_
        refine XS.aload X329.here hx rfl (hb hby at_144) rfl rfl ?_
        refine XS.aload X329.here hx rfl (hb hby at_146) rfl rfl ?_
        exact kt
      have c330 := (c297.keep Kq305).keep Kq315
      obtain ⟨cq331, kq331, q331a, q331b, q331c⟩ := isOf hZ eq329 q316
      obtain ⟨_, _, ⟨T331, L331, k331, n331⟩, -, X331, hSn331, hgr331, ⟨Lc331, hQ331, l331, y331, z331⟩, st331⟩ := X329.virtualBackS hx (y := (⟨sq0, "put", sq4⟩ : MethodName)) (z := (⟨sq0, "put", sq4⟩ : MethodName)) hown (mvT hZ (hw _ tw49)) (mvT hZ (hw _ tw50)) (notFace_of_selects (args := #[]) (mvT hZ (hw _ tw52))) (mvT hZ (hw _ tw52)) (mvT hZ (hw _ tw51)) (by decide) (backOfS (s := (s.setVm T305.vm)) (W := 0) (rm9_none_0_4_R l Z a0 hw [] b10 b46 b80 ((((0 : Int32) + (1 : Int32)) + (1 : Int32)) + (1 : Int32)) wcs wm b198 k199 T315.heap n0 (Nat.le_trans Z0 K323.1) O324 S_CS hcs M_AO q316 q317 q318 q319 q320 q321 q322 c328 g13 g210 q201 ne304 c330) hZ (hw _ tw53) (hw _ tw2) (by decide) (by decide)) q331a q331c (g := (mkF m 148 #[.val (.int p0), .val (.int p1), .val (.int p2), .val (.int p3), .val (.ref b10), .val (.ref b29), .val (.ref b46), .val (.ref b63), .val (.ref b80), .val (.int 2), .val (.int 1), .unset] [(.ref b80), (.ref b46), (.ref b10)])) rfl (by rw [hml]; rfl) (Steps.refl _) (argsL := [(.ref b46), (.ref b80)]) (rest := []) (lenOf pd18 rfl) rfl (by show 2 * 0 + _ ≤ _; exact Nat.le_of_eq rfl) (hb hby at_148) (fun _ _ => ⟨rfl, eq329, (by decide : 14 + 2 ≤ _), (by decide : 67 + 20 ≤ _)⟩)
      dsimp only [Pt.U, Pt.locs, Pt.cells, Pt.slots] at X331 l331 y331 z331 st331 hQ331 hSn331 hgr331
      subst l331 y331 z331
      have hSi := foldS hSi (by rw [eq329]; exact (Nat.le_trans (Nat.le_refl _) Kq315.1)) hSn331 hgr331
      have hown : T331.vm.findClass "com/example/graphweave/graphweave/json/JsonObjectClearPinLaw" = some m.cls := by rw [hSn331.1.alike.findClass]; exact hown
      have hZ : Z.Warmed39 T331.vm := State.Warmed39.trans (t := (s.setVm T305.vm)) hZ hSn331.1
      have X331 : Stand p l e room_1 (s.setVm T331.vm) m #[(.int p0), (.int p1), (.int p2), (.int p3)] below meth c T331 _ _ _ := X331
      obtain ⟨rfl, Nq331, Kq331, q332, q333, q334, q335, q336, q337, q338⟩ := hQ331
      have N331 := Fr.app N329 Nq331
      have K339 := K323.trans Kq331 (allS (Or.inr sz12) (allS (Or.inr sz209) all0))
      have O340 := O324.keep Kq331 (allS g13 (allS g210 all0))
      refine GoW.by st331 ?_
      show GoW _ _ _ _ _ _ _ (T331.setTop (mkF m 151 _ [.null]))
      refine GoW.st (t' := T331.setTop (mkF m 165 #[.val (.int p0), .val (.int p1), .val (.int p2), .val (.int p3), .val (.ref b10), .val (.ref b29), .val (.ref b46), .val (.ref b63), .val (.ref b80), .val (.int 2), .val (.int 1), .val .null] [(.ref b10)])) (fun target kt => ?_) ?_
      · refine XS.astore X331.here hx rfl (hb hby at_151) rfl rfl (l' := #[.val (.int p0), .val (.int p1), .val (.int p2), .val (.int p3), .val (.ref b10), .val (.ref b29), .val (.ref b46), .val (.ref b63), .val (.ref b80), .val (.int 2), .val (.int 1), .val .null]) rfl ?_
        refine XS.iload X331.here hx rfl (hb hby at_153) rfl ?_
        refine XS.ifNo X331.here hx rfl (hb hby at_155) rfl ((if0 _ _).trans (feq (by decide : ¬ ((1 : Int32) = (0 : Int32)))).1) ?_
        refine XS.aload X331.here hx rfl (hb hby at_158) rfl rfl ?_
        refine XS.ifnonnullNo X331.here hx rfl (hb hby at_160) rfl ?_
        refine XS.aload X331.here hx rfl (hb hby at_163) rfl rfl ?_
        exact kt
      obtain ⟨cq341, kq341, q341a, q341b, q341c⟩ := isOf hZ rfl q332
      obtain ⟨_, _, ⟨T341, L341, k341, n341⟩, -, X341, ⟨Lc341, hQ341, l341, y341, z341⟩, st341⟩ := X331.virtualBack hx (y := (⟨sq0, "size", "()I"⟩ : MethodName)) (z := (⟨sq0, "size", "()I"⟩ : MethodName)) hown (mvT hZ (hw _ tw116)) (mvT hZ (hw _ tw117)) (notFace_of_selects (args := #[]) (mvT hZ (hw _ tw119))) (mvT hZ (hw _ tw119)) (mvT hZ (hw _ tw118)) (by decide) (backOf (W := 0) (rm20 l Z a0 hw [] b10 (1 : Int32) T331.heap n0 (Nat.le_trans Z0 K339.1) O340  q335) hZ (hw _ tw120) (hw _ tw2) (by decide) (by decide)) q341a q341c (g := (mkF m 165 #[.val (.int p0), .val (.int p1), .val (.int p2), .val (.int p3), .val (.ref b10), .val (.ref b29), .val (.ref b46), .val (.ref b63), .val (.ref b80), .val (.int 2), .val (.int 1), .val .null] [(.ref b10)])) rfl (by rw [hml]; rfl) (Steps.refl _) (argsL := []) (rest := []) (lenOf pd16 rfl) rfl (by show 2 * 0 + _ ≤ _; exact Nat.le_of_eq rfl) (hb hby at_165) (fun _ _ => ⟨rfl, rfl, (by decide : 16 + 0 ≤ _), (by decide : 87 + 0 ≤ _)⟩)
      dsimp only [Pt.U, Pt.locs, Pt.cells, Pt.slots] at X341 l341 y341 z341 st341 hQ341
      subst l341 y341 z341
      obtain ⟨rfl, Nq341, eq341⟩ := hQ341
      have N341 := Fr.app N331 Nq341
      refine GoW.by st341 ?_
      show GoW _ _ _ _ _ _ _ (T341.setTop (mkF m 168 _ [(.int 1)]))
      refine GoW.st (t' := T341.setTop (mkF m 176 #[.val (.int p0), .val (.int p1), .val (.int p2), .val (.int p3), .val (.ref b10), .val (.ref b29), .val (.ref b46), .val (.ref b63), .val (.ref b80), .val (.int 2), .val (.int 1), .val .null] [(.ref b46), (.ref b10)])) (fun target kt => ?_) ?_
      · refine XS.iconst X341.here hx rfl (hb hby at_168) ?_
        refine XS.icmpNo X341.here hx rfl (hb hby at_169) rfl (teq (by decide : (1 : Int32) = (1 : Int32))).2 ?_
        refine XS.aload X341.here hx rfl (hb hby at_172) rfl rfl ?_
        refine XS.aload X341.here hx rfl (hb hby at_174) rfl rfl ?_
        exact kt
      have c342 := c328.keep Kq331
      obtain ⟨cq343, kq343, q343a, q343b, q343c⟩ := isOf hZ eq341 q332
      obtain ⟨_, _, ⟨T343, L343, k343, n343⟩, -, X343, ⟨Lc343, hQ343, l343, y343, z343⟩, st343⟩ := X341.virtualBack hx (y := (⟨sq0, "get", "(Ljava/lang/Object;)Ljava/lang/Object;"⟩ : MethodName)) (z := (⟨sq0, "get", "(Ljava/lang/Object;)Ljava/lang/Object;"⟩ : MethodName)) hown (mvT hZ (hw _ tw126)) (mvT hZ (hw _ tw127)) (notFace_of_selects (args := #[]) (mvT hZ (hw _ tw129))) (mvT hZ (hw _ tw129)) (mvT hZ (hw _ tw128)) (by decide) (backOf (W := 0) (rm22_same_4 l Z a0 hw [] b10 b46 (((((0 : Int32) + (1 : Int32)) + (1 : Int32)) + (1 : Int32)) + (1 : Int32)) wcs b198 k199 b80 T331.heap n0 (Nat.le_trans Z0 K339.1) O340 S_CS hcs q332 q333 q334 q335 q336 q337 q338 c342) hZ (hw _ tw130) (hw _ tw2) (by decide) (by decide)) q343a q343c (g := (mkF m 176 #[.val (.int p0), .val (.int p1), .val (.int p2), .val (.int p3), .val (.ref b10), .val (.ref b29), .val (.ref b46), .val (.ref b63), .val (.ref b80), .val (.int 2), .val (.int 1), .val .null] [(.ref b46), (.ref b10)])) rfl (by rw [hml]; rfl) (Steps.refl _) (argsL := [(.ref b46)]) (rest := []) (lenOf pd17 rfl) rfl (by show 2 * 0 + _ ≤ _; exact Nat.le_of_eq rfl) (hb hby at_176) (fun _ _ => ⟨rfl, eq341, (by decide : 16 + 0 ≤ _), (by decide : 87 + 0 ≤ _)⟩)
      dsimp only [Pt.U, Pt.locs, Pt.cells, Pt.slots] at X343 l343 y343 z343 st343 hQ343
      subst l343 y343 z343
      obtain ⟨rfl, Nq343, eq343⟩ := hQ343
      have N343 := Fr.app N341 Nq343
      refine GoW.by st343 ?_
      show GoW _ _ _ _ _ _ _ (T343.setTop (mkF m 179 _ [(.ref b80)]))
      refine GoW.st (t' := T343.setTop (mkF m 189 #[.val (.int p0), .val (.int p1), .val (.int p2), .val (.int p3), .val (.ref b10), .val (.ref b29), .val (.ref b46), .val (.ref b63), .val (.ref b80), .val (.int 2), .val (.int 1), .val .null] [(.int 1)])) (fun target kt => ?_) ?_
      · refine XS.aload X343.here hx rfl (hb hby at_179) rfl rfl ?_
        refine Jvm.RoadKit.acmp (g := (mkF m 181 #[.val (.int p0), .val (.int p1), .val (.int p2), .val (.int p3), .val (.ref b10), .val (.ref b29), .val (.ref b46), .val (.ref b63), .val (.ref b80), .val (.int 2), .val (.int 1), .val .null] [(.ref b80), (.ref b80)])) X343 hx rfl rfl rfl (pc0 := 181) (pc' := 184) (same := true) rfl (hb hby at_181) rfl (decide_eq_true rfl) (by decide) (by decide) ?_
        refine XS.iconst X343.here hx rfl (hb hby at_184) ?_
        refine XS.goto X343.here hx rfl (pc0 := 185) (pc' := 189) rfl (hb hby at_185) (by decide) (by decide) ?_
        exact kt
      refine GoW.ret X343 hSi (by rw [eq343]; exact (Nat.le_refl _)) (v := some (.int 1)) (fun h => by rw [hret] at h; cases h) hlk (fun fs hr => retN X343 hx (t := .boolean) hret (by simp) (hb hby at_189) hr) ?_ (by decide) (by decide)
      show Q0 Z p0 p1 p2 p3 wn kn wm wcs wc clc h0 n0 _ T343.heap _
      rw [eq343]
      exact ⟨rfl, N343, K339⟩
  · have hk_ := hk
    rw [hk]
    show GoW _ _ _ _ _ _ _ (T79.setTop (mkF m 51 _ [(.int 3)]))
    refine GoW.st (t' := T79.setTop (mkF m 64 #[.val (.int p0), .val (.int p1), .val (.int p2), .val (.int p3), .val (.ref b10), .val (.ref b29), .val (.ref b46), .val (.ref b63), .val (.ref b80), .val (.int 3), .unset, .unset] [(.int p3), (.ref b29), (.ref b10)])) (fun target kt => ?_) ?_
    · refine XS.istore X79.here hx rfl (hb hby at_51) rfl (l' := #[.val (.int p0), .val (.int p1), .val (.int p2), .val (.int p3), .val (.ref b10), .val (.ref b29), .val (.ref b46), .val (.ref b63), .val (.ref b80), .val (.int 3), .unset, .unset]) rfl ?_
      refine XS.iload X79.here hx rfl (hb hby at_53) rfl ?_
      refine XS.iconst X79.here hx rfl (hb hby at_55) ?_
      refine XS.icmpNo X79.here hx rfl (hb hby at_56) rfl (flt (by decide : ¬ ((3 : Int32) < (1 : Int32)))).1 ?_
      refine XS.aload X79.here hx rfl (hb hby at_59) rfl rfl ?_
      refine XS.aload X79.here hx rfl (hb hby at_61) rfl rfl ?_
      refine XS.iloadN X79.here hx rfl (hb hby at_63) rfl ?_
      exact kt
    obtain ⟨_, _, ⟨T344, L344, k344, n344⟩, -, X344, ⟨Lc344, hQ344, l344, y344, z344⟩, st344⟩ := Jvm.LawKit.callS X79 hx (y := (⟨"java/lang/Integer", "valueOf", "(I)Ljava/lang/Integer;"⟩ : MethodName)) hown (mvT hZ (hw _ tw42)) (mvT hZ (hw _ tw43)) (mvT hZ (hw _ tw44)) (mvT hZ (hw _ tw45)) (by decide) (backOf (W := 2) (rm8 l Z a0 hw [] p3 wc clc T79.heap n0 (Nat.le_trans Z0 K82.1) O83 S_HI S_CA A_CA hcache ) hZ (hw _ tw45) (hw _ tw44) (by decide) (by decide)) (g := (mkF m 64 #[.val (.int p0), .val (.int p1), .val (.int p2), .val (.int p3), .val (.ref b10), .val (.ref b29), .val (.ref b46), .val (.ref b63), .val (.ref b80), .val (.int 3), .unset, .unset] [(.int p3), (.ref b29), (.ref b10)])) rfl (by rw [hml]; rfl) (argsL := [(.int p3)]) (rest := [(.ref b29), (.ref b10)]) (lenOf pd15 rfl) rfl (by show 2 * 0 + _ ≤ _; exact Nat.le_of_eq rfl) (hb hby at_64) (fun _ _ => ⟨rfl, rfl, (by decide : 8 + 1 ≤ _), (by decide : 22 + 1 ≤ _)⟩)
    dsimp only [Pt.U, Pt.locs, Pt.cells, Pt.slots] at X344 l344 y344 z344 st344 hQ344
    subst l344 y344 z344
    obtain ⟨b345, rfl, Nq344, Kq344, q346⟩ := hQ344
    have N344 := Fr.app N79 Nq344
    have K347 := K82.trans Kq344 all0
    have O348 := O83.keep Kq344 all0
    refine GoW.st st344 ?_
    show GoW _ _ _ _ _ _ _ (T344.setTop (mkF m 67 _ [(.ref b345), (.ref b29), (.ref b10)]))
    have c349 := ((((q21.keep Kq28).keep Kq45).keep Kq62).keep Kq79).keep Kq344
    have c350 := ((((q22.keep Kq28 nin0).keep Kq45 nin0).keep Kq62 nin0).keep Kq79 nin0).keep Kq344 nin0
    have c351 := ((((q23.keep Kq28 nin0).keep Kq45 nin0).keep Kq62 nin0).keep Kq79 nin0).keep Kq344 nin0
    have c352 := ((((q24.keep Kq28 nin0).keep Kq45 nin0).keep Kq62 nin0).keep Kq79 nin0).keep Kq344 nin0
    have c353 := ((((q25.keep Kq28 nin0).keep Kq45 nin0).keep Kq62 nin0).keep Kq79 nin0).keep Kq344 nin0
    have c354 := (((q35.keep Kq45).keep Kq62).keep Kq79).keep Kq344
    obtain ⟨cq355, kq355, q355a, q355b, q355c⟩ := isOf hZ rfl c349
    obtain ⟨_, _, ⟨T355, L355, k355, n355⟩, -, X355, hSn355, hgr355, ⟨Lc355, hQ355, l355, y355, z355⟩, st355⟩ := X344.virtualBackS hx (y := (⟨sq0, "put", sq4⟩ : MethodName)) (z := (⟨sq0, "put", sq4⟩ : MethodName)) hown (mvT hZ (hw _ tw49)) (mvT hZ (hw _ tw50)) (notFace_of_selects (args := #[]) (mvT hZ (hw _ tw52))) (mvT hZ (hw _ tw52)) (mvT hZ (hw _ tw51)) (by decide) (backOfS (s := (s.setVm s.vm)) (W := 0) (rm9_none_0_0_R l Z a0 hw [] b10 b29 b345 (0 : Int32) wcs wm wn kn T344.heap n0 (Nat.le_trans Z0 K347.1) O348 S_CS hcs M_AO S_NM E_wn V_wn c349 c350 c351 c352 c353 c354 g13 q346) hZ (hw _ tw53) (hw _ tw2) (by decide) (by decide)) q355a q355c (g := (mkF m 67 #[.val (.int p0), .val (.int p1), .val (.int p2), .val (.int p3), .val (.ref b10), .val (.ref b29), .val (.ref b46), .val (.ref b63), .val (.ref b80), .val (.int 3), .unset, .unset] [(.ref b345), (.ref b29), (.ref b10)])) rfl (by rw [hml]; rfl) (Steps.refl _) (argsL := [(.ref b29), (.ref b345)]) (rest := []) (lenOf pd18 rfl) rfl (by show 2 * 0 + _ ≤ _; exact Nat.le_of_eq rfl) (hb hby at_67) (fun _ _ => ⟨rfl, rfl, (by decide : 9 + 3 ≤ _), (by decide : 23 + 24 ≤ _)⟩)
    dsimp only [Pt.U, Pt.locs, Pt.cells, Pt.slots] at X355 l355 y355 z355 st355 hQ355 hSn355 hgr355
    subst l355 y355 z355
    have hSi := foldS hSi (Nat.le_trans (Nat.zero_le _) (Nat.le_trans (Nat.le_trans (Nat.le_trans (Nat.le_trans (Nat.le_trans (Nat.le_trans E10.1 Kq20.1) Kq28.1) Kq45.1) Kq62.1) Kq79.1) Kq344.1)) hSn355 hgr355
    have hown : T355.vm.findClass "com/example/graphweave/graphweave/json/JsonObjectClearPinLaw" = some m.cls := by rw [hSn355.1.alike.findClass]; exact hown
    have hZ : Z.Warmed39 T355.vm := State.Warmed39.trans (t := (s.setVm s.vm)) hZ hSn355.1
    have X355 : Stand p l e room_1 (s.setVm T355.vm) m #[(.int p0), (.int p1), (.int p2), (.int p3)] below meth c T355 _ _ _ := X355
    obtain ⟨b356, k357, rfl, Nq355, Kq355, q358, q359, q360, q361, q362, q363, q364, q365, q366⟩ := hQ355
    have N355 := Fr.app N344 Nq355
    have sz367 : h0.size ≤ b356 := Nat.le_trans K347.1 q358
    have g368 : n0 ≤ b356 := Nat.le_trans Z0 sz367
    have K369 := K347.trans Kq355 (allS (Or.inr sz12) all0)
    have O370 := O348.keep Kq355 (allS g13 all0)
    refine GoW.by st355 ?_
    show GoW _ _ _ _ _ _ _ (T355.setTop (mkF m 70 _ [.null]))
    refine GoW.st (t' := T355.setTop (mkF m 83 #[.val (.int p0), .val (.int p1), .val (.int p2), .val (.int p3), .val (.ref b10), .val (.ref b29), .val (.ref b46), .val (.ref b63), .val (.ref b80), .val (.int 3), .unset, .unset] [(.ref b80), (.ref b46), (.ref b10)])) (fun target kt => ?_) ?_
    · refine XS.pop X355.here hx rfl (hb hby at_70) rfl rfl ?_
      refine XS.iload X355.here hx rfl (hb hby at_71) rfl ?_
      refine XS.iconst X355.here hx rfl (hb hby at_73) ?_
      refine XS.icmpNo X355.here hx rfl (hb hby at_74) rfl (flt (by decide : ¬ ((3 : Int32) < (2 : Int32)))).1 ?_
      refine XS.aload X355.here hx rfl (hb hby at_77) rfl rfl ?_
      refine XS.aload X355.here hx rfl (hb hby at_79) rfl rfl ?_
      refine XS.aload X355.here hx rfl (hb hby at_81) rfl rfl ?_
      exact kt
    rcases Classical.em (i49 = i32) with hc371 | hc371
    · skip
      have c372 := (((q52.keep Kq62).keep Kq79).keep Kq344).keep Kq355
      have o373 : b10 < b30 := Nat.lt_of_lt_of_le A10.lt (Nat.le_trans Kq20.1 q34)
      have o374 : b30 < b46 := Nat.lt_of_lt_of_le q38.lt q50
      have o375 : b10 < b46 := Nat.lt_trans o373 o374
      have ne376 : b10 ≠ b46 := Nat.ne_of_lt o375
      have c377 := (((q53.keep Kq62 nin0).keep Kq79 nin0).keep Kq344 nin0).keep Kq355 (ninS (Ne.symm ne376) nin0)
      have c378 := (((q54.keep Kq62 nin0).keep Kq79 nin0).keep Kq344 nin0).keep Kq355 (ninS (Ne.symm ne376) nin0)
      have o379 : b30 < b47 := Nat.lt_of_lt_of_le q38.lt q51
      have o380 : b10 < b47 := Nat.lt_trans o373 o379
      have ne381 : b10 ≠ b47 := Nat.ne_of_lt o380
      have c382 := (((q55.keep Kq62 nin0).keep Kq79 nin0).keep Kq344 nin0).keep Kq355 (ninS (Ne.symm ne381) nin0)
      have c383 := c354.keep Kq355
      have o384 : b10 < b29 := Nat.lt_of_lt_of_le A10.lt (Nat.le_trans Kq20.1 q33)
      have ne385 : b10 ≠ b29 := Nat.ne_of_lt o384
      have c386 := ((((q36.keep Kq45 nin0).keep Kq62 nin0).keep Kq79 nin0).keep Kq344 nin0).keep Kq355 (ninS (Ne.symm ne385) nin0)
      have c387 := ((((q37.keep Kq45 nin0).keep Kq62 nin0).keep Kq79 nin0).keep Kq344 nin0).keep Kq355 (ninS (Ne.symm ne385) nin0)
      have ne388 : b10 ≠ b30 := Nat.ne_of_lt o373
      have c389 := ((((q38.keep Kq45 nin0).keep Kq62 nin0).keep Kq79 nin0).keep Kq344 nin0).keep Kq355 (ninS (Ne.symm ne388) nin0)
      have c390 := (q81.keep Kq344).keep Kq355
      have o391 : b29 < b46 := Nat.lt_of_lt_of_le q35.lt q50
      have ne392 : b29 ≠ b46 := Nat.ne_of_lt o391
      have o393 : b47 < b64 := Nat.lt_of_lt_of_le q55.lt q68
      have o394 : b10 < b64 := Nat.lt_trans o380 o393
      have o395 : b64 < b356 := Nat.lt_of_lt_of_le q72.lt (Nat.le_trans (Nat.le_trans Kq79.1 Kq344.1) q358)
      have o396 : b10 < b356 := Nat.lt_trans o394 o395
      have ne397 : b10 ≠ b356 := Nat.ne_of_lt o396
      obtain ⟨cq398, kq398, q398a, q398b, q398c⟩ := isOf hZ rfl q360
      obtain ⟨_, _, ⟨T398, L398, k398, n398⟩, -, X398, hSn398, hgr398, ⟨Lc398, hQ398, l398, y398, z398⟩, st398⟩ := X355.virtualBackS hx (y := (⟨sq0, "put", sq4⟩ : MethodName)) (z := (⟨sq0, "put", sq4⟩ : MethodName)) hown (mvT hZ (hw _ tw49)) (mvT hZ (hw _ tw50)) (notFace_of_selects (args := #[]) (mvT hZ (hw _ tw52))) (mvT hZ (hw _ tw52)) (mvT hZ (hw _ tw51)) (by decide) (backOfS (s := (s.setVm T355.vm)) (W := 0) (rm9_eq_1_4_R l Z a0 hw [] b10 b46 b80 ((0 : Int32) + (1 : Int32)) wcs wm b356 k357 b29 (.ref b345) b47 k48 i49 b30 k31 i32 T355.heap n0 (Nat.le_trans Z0 K369.1) O370 S_CS hcs M_AO q360 q361 q362 q363 q364 q365 q366 c372 c377 c378 c382 c383 c386 c387 c389 (Ne.symm ne392) g13 g368 q359 ne397 c390 (by first | rfl | assumption | decide | omega : (Value.ref b345).isRef = true) hc371) hZ (hw _ tw53) (hw _ tw2) (by decide) (by decide)) q398a q398c (g := (mkF m 83 #[.val (.int p0), .val (.int p1), .val (.int p2), .val (.int p3), .val (.ref b10), .val (.ref b29), .val (.ref b46), .val (.ref b63), .val (.ref b80), .val (.int 3), .unset, .unset] [(.ref b80), (.ref b46), (.ref b10)])) rfl (by rw [hml]; rfl) (Steps.refl _) (argsL := [(.ref b46), (.ref b80)]) (rest := []) (lenOf pd18 rfl) rfl (by show 2 * 0 + _ ≤ _; exact Nat.le_of_eq rfl) (hb hby at_83) (fun _ _ => ⟨rfl, rfl, (by decide : 12 + 2 ≤ _), (by decide : 47 + 20 ≤ _)⟩)
      dsimp only [Pt.U, Pt.locs, Pt.cells, Pt.slots] at X398 l398 y398 z398 st398 hQ398 hSn398 hgr398
      subst l398 y398 z398
      have hSi := foldS hSi (Nat.le_refl _) hSn398 hgr398
      have hown : T398.vm.findClass "com/example/graphweave/graphweave/json/JsonObjectClearPinLaw" = some m.cls := by rw [hSn398.1.alike.findClass]; exact hown
      have hZ : Z.Warmed39 T398.vm := State.Warmed39.trans (t := (s.setVm T355.vm)) hZ hSn398.1
      have X398 : Stand p l e room_1 (s.setVm T398.vm) m #[(.int p0), (.int p1), (.int p2), (.int p3)] below meth c T398 _ _ _ := X398
      obtain ⟨rfl, Nq398, Kq398, q399⟩ := hQ398
      have N398 := Fr.app N355 Nq398
      have K400 := K369.trans Kq398 (allS (Or.inr sz367) all0)
      have O401 := O370.keep Kq398 (allS g368 all0)
      refine GoW.by st398 ?_
      show GoW _ _ _ _ _ _ _ (T398.setTop (mkF m 86 _ [(.ref b345)]))
      refine GoW.st (t' := T398.setTop (mkF m 98 #[.val (.int p0), .val (.int p1), .val (.int p2), .val (.int p3), .val (.ref b10), .val (.ref b29), .val (.ref b46), .val (.ref b63), .val (.ref b80), .val (.int 3), .unset, .unset] [.null, (.ref b63), (.ref b10)])) (fun target kt => ?_) ?_
      · refine XS.pop X398.here hx rfl (hb hby at_86) rfl rfl ?_
        refine XS.iload X398.here hx rfl (hb hby at_87) rfl ?_
        refine XS.iconst X398.here hx rfl (hb hby at_89) ?_
        refine XS.icmpNo X398.here hx rfl (hb hby at_90) rfl (flt (by decide : ¬ ((3 : Int32) < (3 : Int32)))).1 ?_
        refine XS.aload X398.here hx rfl (hb hby at_93) rfl rfl ?_
        refine XS.aload X398.here hx rfl (hb hby at_95) rfl rfl ?_
        refine XS.aconstNull X398.here hx rfl (hb hby at_97) ?_
        exact kt
      rcases Classical.em (i66 = i32) with hc402 | hc402
      · skip
        have c403 := q360.keep Kq398
        have c404 := q361.keep Kq398 (ninS ne397 nin0)
        have c405 := q362.keep Kq398 (ninS ne397 nin0)
        have c406 := q363.keep Kq398 (ninS ne397 nin0)
        have c407 := q364.keep Kq398 (ninS ne397 nin0)
        have c408 := q365.keep Kq398
        have c409 := (((q69.keep Kq79).keep Kq344).keep Kq355).keep Kq398
        have o410 : b47 < b63 := Nat.lt_of_lt_of_le q55.lt q67
        have o411 : b10 < b63 := Nat.lt_trans o380 o410
        have ne412 : b10 ≠ b63 := Nat.ne_of_lt o411
        have o413 : b63 < b356 := Nat.lt_of_lt_of_le q69.lt (Nat.le_trans (Nat.le_trans Kq79.1 Kq344.1) q358)
        have ne414 : b63 ≠ b356 := Nat.ne_of_lt o413
        have c415 := (((q70.keep Kq79 nin0).keep Kq344 nin0).keep Kq355 (ninS (Ne.symm ne412) nin0)).keep Kq398 (ninS ne414 nin0)
        have c416 := (((q71.keep Kq79 nin0).keep Kq344 nin0).keep Kq355 (ninS (Ne.symm ne412) nin0)).keep Kq398 (ninS ne414 nin0)
        have ne417 : b10 ≠ b64 := Nat.ne_of_lt o394
        have ne418 : b64 ≠ b356 := Nat.ne_of_lt o395
        have c419 := (((q72.keep Kq79 nin0).keep Kq344 nin0).keep Kq355 (ninS (Ne.symm ne417) nin0)).keep Kq398 (ninS ne418 nin0)
        have c420 := c383.keep Kq398
        have o421 : b29 < b47 := Nat.lt_of_lt_of_le q35.lt q51
        have o422 : b29 < b64 := Nat.lt_trans o421 o393
        have o423 : b29 < b356 := Nat.lt_trans o422 o395
        have ne424 : b29 ≠ b356 := Nat.ne_of_lt o423
        have c425 := c386.keep Kq398 (ninS ne424 nin0)
        have c426 := c387.keep Kq398 (ninS ne424 nin0)
        have o427 : b30 < b64 := Nat.lt_trans o379 o393
        have o428 : b30 < b356 := Nat.lt_trans o427 o395
        have ne429 : b30 ≠ b356 := Nat.ne_of_lt o428
        have c430 := c389.keep Kq398 (ninS ne429 nin0)
        have o431 : b29 < b63 := Nat.lt_trans o421 o410
        have ne432 : b29 ≠ b63 := Nat.ne_of_lt o431
        obtain ⟨cq433, kq433, q433a, q433b, q433c⟩ := isOf hZ rfl c403
        obtain ⟨_, _, ⟨T433, L433, k433, n433⟩, -, X433, hSn433, hgr433, ⟨Lc433, hQ433, l433, y433, z433⟩, st433⟩ := X398.virtualBackS hx (y := (⟨sq0, "put", sq4⟩ : MethodName)) (z := (⟨sq0, "put", sq4⟩ : MethodName)) hown (mvT hZ (hw _ tw49)) (mvT hZ (hw _ tw50)) (notFace_of_selects (args := #[]) (mvT hZ (hw _ tw52))) (mvT hZ (hw _ tw52)) (mvT hZ (hw _ tw51)) (by decide) (backOfS (s := (s.setVm T398.vm)) (W := 0) (rm9_eq_1_4_n l Z a0 hw [] b10 b63 ((0 : Int32) + (1 : Int32)) wcs wm b356 k357 b29 (.ref b80) b64 k65 i66 b30 k31 i32 T398.heap n0 (Nat.le_trans Z0 K400.1) O401 S_CS hcs M_AO c403 c404 c405 c406 c407 c408 q399 c409 c415 c416 c419 c420 c425 c426 c430 (Ne.symm ne432) g13 g368 q359 ne397 (by first | rfl | assumption | decide | omega : (Value.ref b80).isRef = true) hc402) hZ (hw _ tw53) (hw _ tw2) (by decide) (by decide)) q433a q433c (g := (mkF m 98 #[.val (.int p0), .val (.int p1), .val (.int p2), .val (.int p3), .val (.ref b10), .val (.ref b29), .val (.ref b46), .val (.ref b63), .val (.ref b80), .val (.int 3), .unset, .unset] [.null, (.ref b63), (.ref b10)])) rfl (by rw [hml]; rfl) (Steps.refl _) (argsL := [(.ref b63), .null]) (rest := []) (lenOf pd18 rfl) rfl (by show 2 * 0 + _ ≤ _; exact Nat.le_of_eq rfl) (hb hby at_98) (fun _ _ => ⟨rfl, rfl, (by decide : 14 + 2 ≤ _), (by decide : 67 + 20 ≤ _)⟩)
        dsimp only [Pt.U, Pt.locs, Pt.cells, Pt.slots] at X433 l433 y433 z433 st433 hQ433 hSn433 hgr433
        subst l433 y433 z433
        have hSi := foldS hSi (Nat.le_refl _) hSn433 hgr433
        have hown : T433.vm.findClass "com/example/graphweave/graphweave/json/JsonObjectClearPinLaw" = some m.cls := by rw [hSn433.1.alike.findClass]; exact hown
        have hZ : Z.Warmed39 T433.vm := State.Warmed39.trans (t := (s.setVm T398.vm)) hZ hSn433.1
        have X433 : Stand p l e room_1 (s.setVm T433.vm) m #[(.int p0), (.int p1), (.int p2), (.int p3)] below meth c T433 _ _ _ := X433
        obtain ⟨rfl, Nq433, Kq433, q434⟩ := hQ433
        have N433 := Fr.app N398 Nq433
        have K435 := K400.trans Kq433 (allS (Or.inr sz367) all0)
        have O436 := O401.keep Kq433 (allS g368 all0)
        refine GoW.by st433 ?_
        show GoW _ _ _ _ _ _ _ (T433.setTop (mkF m 101 _ [(.ref b80)]))
        refine GoW.st (t' := T433.setTop (mkF m 104 #[.val (.int p0), .val (.int p1), .val (.int p2), .val (.int p3), .val (.ref b10), .val (.ref b29), .val (.ref b46), .val (.ref b63), .val (.ref b80), .val (.int 3), .unset, .unset] [(.ref b10)])) (fun target kt => ?_) ?_
        · refine XS.pop X433.here hx rfl (hb hby at_101) rfl rfl ?_
          refine XS.aload X433.here hx rfl (hb hby at_102) rfl rfl ?_
          exact kt
        have c437 := c403.keep Kq433
        have c438 := c404.keep Kq433 (ninS ne397 nin0)
        have c439 := c405.keep Kq433 (ninS ne397 nin0)
        have c440 := c406.keep Kq433 (ninS ne397 nin0)
        have c441 := c407.keep Kq433 (ninS ne397 nin0)
        have c442 := c408.keep Kq433
        obtain ⟨cq443, kq443, q443a, q443b, q443c⟩ := isOf hZ rfl c437
        obtain ⟨_, _, ⟨T443, L443, k443, n443⟩, -, X443, ⟨Lc443, hQ443, l443, y443, z443⟩, st443⟩ := X433.virtualBack hx (y := (⟨sq0, "clear", "()V"⟩ : MethodName)) (z := (⟨sq0, "clear", "()V"⟩ : MethodName)) hown (mvT hZ (hw _ tw105)) (mvT hZ (hw _ tw106)) (notFace_of_selects (args := #[]) (mvT hZ (hw _ tw108))) (mvT hZ (hw _ tw108)) (mvT hZ (hw _ tw107)) (by decide) (backOf (W := 0) (rm17_4_1 l Z a0 hw [] b10 b356 k357 (.ref b29) .null ((0 : Int32) + (1 : Int32)) T433.heap n0 (Nat.le_trans Z0 K435.1) O436  c437 c438 c439 c440 c441 c442 q434 g13 g368 ne397) hZ (hw _ tw109) (hw _ tw2) (by decide) (by decide)) q443a q443c (g := (mkF m 104 #[.val (.int p0), .val (.int p1), .val (.int p2), .val (.int p3), .val (.ref b10), .val (.ref b29), .val (.ref b46), .val (.ref b63), .val (.ref b80), .val (.int 3), .unset, .unset] [(.ref b10)])) rfl (by rw [hml]; rfl) (Steps.refl _) (argsL := []) (rest := []) (lenOf pd0 rfl) rfl (by show 2 * 0 + _ ≤ _; exact Nat.le_of_eq rfl) (hb hby at_104) (fun _ _ => ⟨rfl, rfl, (by decide : 16 + 0 ≤ _), (by decide : 87 + 0 ≤ _)⟩)
        dsimp only [Pt.U, Pt.locs, Pt.cells, Pt.slots] at X443 l443 y443 z443 st443 hQ443
        subst l443 y443 z443
        obtain ⟨rfl, Nq443, Kq443, q444, q445, q446, q447, q448, q449, q450⟩ := hQ443
        have N443 := Fr.app N433 Nq443
        have K451 := K435.trans Kq443 (allS (Or.inr sz12) (allS (Or.inr sz367) all0))
        have O452 := O436.keep Kq443 (allS g13 (allS g368 all0))
        refine GoW.by st443 ?_
        show GoW _ _ _ _ _ _ _ (T443.setTop (mkF m 107 _ []))
        refine GoW.st (t' := T443.setTop (mkF m 109 #[.val (.int p0), .val (.int p1), .val (.int p2), .val (.int p3), .val (.ref b10), .val (.ref b29), .val (.ref b46), .val (.ref b63), .val (.ref b80), .val (.int 3), .unset, .unset] [(.ref b10)])) (fun target kt => ?_) ?_
        · refine XS.aload X443.here hx rfl (hb hby at_107) rfl rfl ?_
          exact kt
        obtain ⟨cq453, kq453, q453a, q453b, q453c⟩ := isOf hZ rfl q444
        obtain ⟨_, _, ⟨T453, L453, k453, n453⟩, -, X453, ⟨Lc453, hQ453, l453, y453, z453⟩, st453⟩ := X443.virtualBack hx (y := (⟨sq0, "size", "()I"⟩ : MethodName)) (z := (⟨sq0, "size", "()I"⟩ : MethodName)) hown (mvT hZ (hw _ tw116)) (mvT hZ (hw _ tw117)) (notFace_of_selects (args := #[]) (mvT hZ (hw _ tw119))) (mvT hZ (hw _ tw119)) (mvT hZ (hw _ tw118)) (by decide) (backOf (W := 0) (rm20 l Z a0 hw [] b10 (0 : Int32) T443.heap n0 (Nat.le_trans Z0 K451.1) O452  q447) hZ (hw _ tw120) (hw _ tw2) (by decide) (by decide)) q453a q453c (g := (mkF m 109 #[.val (.int p0), .val (.int p1), .val (.int p2), .val (.int p3), .val (.ref b10), .val (.ref b29), .val (.ref b46), .val (.ref b63), .val (.ref b80), .val (.int 3), .unset, .unset] [(.ref b10)])) rfl (by rw [hml]; rfl) (Steps.refl _) (argsL := []) (rest := []) (lenOf pd16 rfl) rfl (by show 2 * 0 + _ ≤ _; exact Nat.le_of_eq rfl) (hb hby at_109) (fun _ _ => ⟨rfl, rfl, (by decide : 16 + 0 ≤ _), (by decide : 87 + 0 ≤ _)⟩)
        dsimp only [Pt.U, Pt.locs, Pt.cells, Pt.slots] at X453 l453 y453 z453 st453 hQ453
        subst l453 y453 z453
        obtain ⟨rfl, Nq453, eq453⟩ := hQ453
        have N453 := Fr.app N443 Nq453
        refine GoW.by st453 ?_
        show GoW _ _ _ _ _ _ _ (T453.setTop (mkF m 112 _ [(.int 0)]))
        refine GoW.st (t' := T453.setTop (mkF m 119 #[.val (.int p0), .val (.int p1), .val (.int p2), .val (.int p3), .val (.ref b10), .val (.ref b29), .val (.ref b46), .val (.ref b63), .val (.ref b80), .val (.int 3), .unset, .unset] [(.ref b29), (.ref b10)])) (fun target kt => ?_) ?_
        · refine XS.ifNo X453.here hx rfl (hb hby at_112) rfl ((if0 _ _).trans (teq (by decide : (0 : Int32) = (0 : Int32))).2) ?_
          refine XS.aload X453.here hx rfl (hb hby at_115) rfl rfl ?_
          refine XS.aload X453.here hx rfl (hb hby at_117) rfl rfl ?_
          exact kt
        have c454 := (c420.keep Kq433).keep Kq443
        obtain ⟨cq455, kq455, q455a, q455b, q455c⟩ := isOf hZ eq453 q444
        obtain ⟨_, _, ⟨T455, L455, k455, n455⟩, -, X455, ⟨Lc455, hQ455, l455, y455, z455⟩, st455⟩ := X453.virtualBack hx (y := (⟨sq0, "containsKey", "(Ljava/lang/Object;)Z"⟩ : MethodName)) (z := (⟨sq0, "containsKey", "(Ljava/lang/Object;)Z"⟩ : MethodName)) hown (mvT hZ (hw _ tw121)) (mvT hZ (hw _ tw122)) (notFace_of_selects (args := #[]) (mvT hZ (hw _ tw124))) (mvT hZ (hw _ tw124)) (mvT hZ (hw _ tw123)) (by decide) (backOf (W := 0) (rm21_4 l Z a0 hw [] b10 b29 (((0 : Int32) + (1 : Int32)) + (1 : Int32)) wcs b356 k357 T443.heap n0 (Nat.le_trans Z0 K451.1) O452 S_CS hcs q444 q445 q446 q447 q448 q449 q450 c454) hZ (hw _ tw125) (hw _ tw2) (by decide) (by decide)) q455a q455c (g := (mkF m 119 #[.val (.int p0), .val (.int p1), .val (.int p2), .val (.int p3), .val (.ref b10), .val (.ref b29), .val (.ref b46), .val (.ref b63), .val (.ref b80), .val (.int 3), .unset, .unset] [(.ref b29), (.ref b10)])) rfl (by rw [hml]; rfl) (Steps.refl _) (argsL := [(.ref b29)]) (rest := []) (lenOf pd6 rfl) rfl (by show 2 * 0 + _ ≤ _; exact Nat.le_of_eq rfl) (hb hby at_119) (fun _ _ => ⟨rfl, eq453, (by decide : 16 + 0 ≤ _), (by decide : 87 + 0 ≤ _)⟩)
        dsimp only [Pt.U, Pt.locs, Pt.cells, Pt.slots] at X455 l455 y455 z455 st455 hQ455
        subst l455 y455 z455
        obtain ⟨rfl, Nq455, eq455⟩ := hQ455
        have N455 := Fr.app N453 Nq455
        refine GoW.by st455 ?_
        show GoW _ _ _ _ _ _ _ (T455.setTop (mkF m 122 _ [(.int 0)]))
        refine GoW.st (t' := T455.setTop (mkF m 129 #[.val (.int p0), .val (.int p1), .val (.int p2), .val (.int p3), .val (.ref b10), .val (.ref b29), .val (.ref b46), .val (.ref b63), .val (.ref b80), .val (.int 3), .unset, .unset] [(.ref b46), (.ref b10)])) (fun target kt => ?_) ?_
        · refine XS.ifNo X455.here hx rfl (hb hby at_122) rfl ((if0 _ _).trans (teq (by decide : (0 : Int32) = (0 : Int32))).2) ?_
          refine XS.aload X455.here hx rfl (hb hby at_125) rfl rfl ?_
          refine XS.aload X455.here hx rfl (hb hby at_127) rfl rfl ?_
          exact kt
        have c456 := ((c372.keep Kq398).keep Kq433).keep Kq443
        obtain ⟨cq457, kq457, q457a, q457b, q457c⟩ := isOf hZ eq455 q444
        obtain ⟨_, _, ⟨T457, L457, k457, n457⟩, -, X457, ⟨Lc457, hQ457, l457, y457, z457⟩, st457⟩ := X455.virtualBack hx (y := (⟨sq0, "get", "(Ljava/lang/Object;)Ljava/lang/Object;"⟩ : MethodName)) (z := (⟨sq0, "get", "(Ljava/lang/Object;)Ljava/lang/Object;"⟩ : MethodName)) hown (mvT hZ (hw _ tw126)) (mvT hZ (hw _ tw127)) (notFace_of_selects (args := #[]) (mvT hZ (hw _ tw129))) (mvT hZ (hw _ tw129)) (mvT hZ (hw _ tw128)) (by decide) (backOf (W := 0) (rm22_none_4 l Z a0 hw [] b10 b46 (((0 : Int32) + (1 : Int32)) + (1 : Int32)) wcs b356 k357 T443.heap n0 (Nat.le_trans Z0 K451.1) O452 S_CS hcs q444 q445 q446 q447 q448 q449 q450 c456) hZ (hw _ tw130) (hw _ tw2) (by decide) (by decide)) q457a q457c (g := (mkF m 129 #[.val (.int p0), .val (.int p1), .val (.int p2), .val (.int p3), .val (.ref b10), .val (.ref b29), .val (.ref b46), .val (.ref b63), .val (.ref b80), .val (.int 3), .unset, .unset] [(.ref b46), (.ref b10)])) rfl (by rw [hml]; rfl) (Steps.refl _) (argsL := [(.ref b46)]) (rest := []) (lenOf pd17 rfl) rfl (by show 2 * 0 + _ ≤ _; exact Nat.le_of_eq rfl) (hb hby at_129) (fun _ _ => ⟨rfl, eq455, (by decide : 16 + 0 ≤ _), (by decide : 87 + 0 ≤ _)⟩)
        dsimp only [Pt.U, Pt.locs, Pt.cells, Pt.slots] at X457 l457 y457 z457 st457 hQ457
        subst l457 y457 z457
        obtain ⟨rfl, Nq457, eq457⟩ := hQ457
        have N457 := Fr.app N455 Nq457
        refine GoW.by st457 ?_
        show GoW _ _ _ _ _ _ _ (T457.setTop (mkF m 132 _ [.null]))
        refine GoW.st (t' := T457.setTop (mkF m 148 #[.val (.int p0), .val (.int p1), .val (.int p2), .val (.int p3), .val (.ref b10), .val (.ref b29), .val (.ref b46), .val (.ref b63), .val (.ref b80), .val (.int 3), .val (.int 1), .unset] [(.ref b80), (.ref b46), (.ref b10)])) (fun target kt => ?_) ?_
        · refine XS.ifnonnullNo X457.here hx rfl (hb hby at_132) rfl ?_
          refine XS.iconst X457.here hx rfl (hb hby at_135) ?_
          refine XS.goto X457.here hx rfl (pc0 := 136) (pc' := 140) rfl (hb hby at_136) (by decide) (by decide) ?_
          refine XS.istore X457.here hx rfl (hb hby at_140) rfl (l' := #[.val (.int p0), .val (.int p1), .val (.int p2), .val (.int p3), .val (.ref b10), .val (.ref b29), .val (.ref b46), .val (.ref b63), .val (.ref b80), .val (.int 3), .val (.int 1), .unset]) rfl ?_
          refine XS.aload X457.here hx rfl (hb hby at_142) rfl rfl ?_
          refine XS.aload X457.here hx rfl (hb hby at_144) rfl rfl ?_
          refine XS.aload X457.here hx rfl (hb hby at_146) rfl rfl ?_
          exact kt
        have c458 := ((c390.keep Kq398).keep Kq433).keep Kq443
        obtain ⟨cq459, kq459, q459a, q459b, q459c⟩ := isOf hZ eq457 q444
        obtain ⟨_, _, ⟨T459, L459, k459, n459⟩, -, X459, hSn459, hgr459, ⟨Lc459, hQ459, l459, y459, z459⟩, st459⟩ := X457.virtualBackS hx (y := (⟨sq0, "put", sq4⟩ : MethodName)) (z := (⟨sq0, "put", sq4⟩ : MethodName)) hown (mvT hZ (hw _ tw49)) (mvT hZ (hw _ tw50)) (notFace_of_selects (args := #[]) (mvT hZ (hw _ tw52))) (mvT hZ (hw _ tw52)) (mvT hZ (hw _ tw51)) (by decide) (backOfS (s := (s.setVm T433.vm)) (W := 0) (rm9_none_0_4_R l Z a0 hw [] b10 b46 b80 (((0 : Int32) + (1 : Int32)) + (1 : Int32)) wcs wm b356 k357 T443.heap n0 (Nat.le_trans Z0 K451.1) O452 S_CS hcs M_AO q444 q445 q446 q447 q448 q449 q450 c456 g13 g368 q359 ne397 c458) hZ (hw _ tw53) (hw _ tw2) (by decide) (by decide)) q459a q459c (g := (mkF m 148 #[.val (.int p0), .val (.int p1), .val (.int p2), .val (.int p3), .val (.ref b10), .val (.ref b29), .val (.ref b46), .val (.ref b63), .val (.ref b80), .val (.int 3), .val (.int 1), .unset] [(.ref b80), (.ref b46), (.ref b10)])) rfl (by rw [hml]; rfl) (Steps.refl _) (argsL := [(.ref b46), (.ref b80)]) (rest := []) (lenOf pd18 rfl) rfl (by show 2 * 0 + _ ≤ _; exact Nat.le_of_eq rfl) (hb hby at_148) (fun _ _ => ⟨rfl, eq457, (by decide : 16 + 2 ≤ _), (by decide : 87 + 20 ≤ _)⟩)
        dsimp only [Pt.U, Pt.locs, Pt.cells, Pt.slots] at X459 l459 y459 z459 st459 hQ459 hSn459 hgr459
        subst l459 y459 z459
        have hSi := foldS hSi (by rw [eq457]; exact (Nat.le_trans (Nat.le_refl _) Kq443.1)) hSn459 hgr459
        have hown : T459.vm.findClass "com/example/graphweave/graphweave/json/JsonObjectClearPinLaw" = some m.cls := by rw [hSn459.1.alike.findClass]; exact hown
        have hZ : Z.Warmed39 T459.vm := State.Warmed39.trans (t := (s.setVm T433.vm)) hZ hSn459.1
        have X459 : Stand p l e room_1 (s.setVm T459.vm) m #[(.int p0), (.int p1), (.int p2), (.int p3)] below meth c T459 _ _ _ := X459
        obtain ⟨rfl, Nq459, Kq459, q460, q461, q462, q463, q464, q465, q466⟩ := hQ459
        have N459 := Fr.app N457 Nq459
        have K467 := K451.trans Kq459 (allS (Or.inr sz12) (allS (Or.inr sz367) all0))
        have O468 := O452.keep Kq459 (allS g13 (allS g368 all0))
        refine GoW.by st459 ?_
        show GoW _ _ _ _ _ _ _ (T459.setTop (mkF m 151 _ [.null]))
        refine GoW.st (t' := T459.setTop (mkF m 165 #[.val (.int p0), .val (.int p1), .val (.int p2), .val (.int p3), .val (.ref b10), .val (.ref b29), .val (.ref b46), .val (.ref b63), .val (.ref b80), .val (.int 3), .val (.int 1), .val .null] [(.ref b10)])) (fun target kt => ?_) ?_
        · refine XS.astore X459.here hx rfl (hb hby at_151) rfl rfl (l' := #[.val (.int p0), .val (.int p1), .val (.int p2), .val (.int p3), .val (.ref b10), .val (.ref b29), .val (.ref b46), .val (.ref b63), .val (.ref b80), .val (.int 3), .val (.int 1), .val .null]) rfl ?_
          refine XS.iload X459.here hx rfl (hb hby at_153) rfl ?_
          refine XS.ifNo X459.here hx rfl (hb hby at_155) rfl ((if0 _ _).trans (feq (by decide : ¬ ((1 : Int32) = (0 : Int32)))).1) ?_
          refine XS.aload X459.here hx rfl (hb hby at_158) rfl rfl ?_
          refine XS.ifnonnullNo X459.here hx rfl (hb hby at_160) rfl ?_
          refine XS.aload X459.here hx rfl (hb hby at_163) rfl rfl ?_
          exact kt
        obtain ⟨cq469, kq469, q469a, q469b, q469c⟩ := isOf hZ rfl q460
        obtain ⟨_, _, ⟨T469, L469, k469, n469⟩, -, X469, ⟨Lc469, hQ469, l469, y469, z469⟩, st469⟩ := X459.virtualBack hx (y := (⟨sq0, "size", "()I"⟩ : MethodName)) (z := (⟨sq0, "size", "()I"⟩ : MethodName)) hown (mvT hZ (hw _ tw116)) (mvT hZ (hw _ tw117)) (notFace_of_selects (args := #[]) (mvT hZ (hw _ tw119))) (mvT hZ (hw _ tw119)) (mvT hZ (hw _ tw118)) (by decide) (backOf (W := 0) (rm20 l Z a0 hw [] b10 (1 : Int32) T459.heap n0 (Nat.le_trans Z0 K467.1) O468  q463) hZ (hw _ tw120) (hw _ tw2) (by decide) (by decide)) q469a q469c (g := (mkF m 165 #[.val (.int p0), .val (.int p1), .val (.int p2), .val (.int p3), .val (.ref b10), .val (.ref b29), .val (.ref b46), .val (.ref b63), .val (.ref b80), .val (.int 3), .val (.int 1), .val .null] [(.ref b10)])) rfl (by rw [hml]; rfl) (Steps.refl _) (argsL := []) (rest := []) (lenOf pd16 rfl) rfl (by show 2 * 0 + _ ≤ _; exact Nat.le_of_eq rfl) (hb hby at_165) (fun _ _ => ⟨rfl, rfl, (by decide : 18 + 0 ≤ _), (by decide : 107 + 0 ≤ _)⟩)
        dsimp only [Pt.U, Pt.locs, Pt.cells, Pt.slots] at X469 l469 y469 z469 st469 hQ469
        subst l469 y469 z469
        obtain ⟨rfl, Nq469, eq469⟩ := hQ469
        have N469 := Fr.app N459 Nq469
        refine GoW.by st469 ?_
        show GoW _ _ _ _ _ _ _ (T469.setTop (mkF m 168 _ [(.int 1)]))
        refine GoW.st (t' := T469.setTop (mkF m 176 #[.val (.int p0), .val (.int p1), .val (.int p2), .val (.int p3), .val (.ref b10), .val (.ref b29), .val (.ref b46), .val (.ref b63), .val (.ref b80), .val (.int 3), .val (.int 1), .val .null] [(.ref b46), (.ref b10)])) (fun target kt => ?_) ?_
        · refine XS.iconst X469.here hx rfl (hb hby at_168) ?_
          refine XS.icmpNo X469.here hx rfl (hb hby at_169) rfl (teq (by decide : (1 : Int32) = (1 : Int32))).2 ?_
          refine XS.aload X469.here hx rfl (hb hby at_172) rfl rfl ?_
          refine XS.aload X469.here hx rfl (hb hby at_174) rfl rfl ?_
          exact kt
        have c470 := c456.keep Kq459
        obtain ⟨cq471, kq471, q471a, q471b, q471c⟩ := isOf hZ eq469 q460
        obtain ⟨_, _, ⟨T471, L471, k471, n471⟩, -, X471, ⟨Lc471, hQ471, l471, y471, z471⟩, st471⟩ := X469.virtualBack hx (y := (⟨sq0, "get", "(Ljava/lang/Object;)Ljava/lang/Object;"⟩ : MethodName)) (z := (⟨sq0, "get", "(Ljava/lang/Object;)Ljava/lang/Object;"⟩ : MethodName)) hown (mvT hZ (hw _ tw126)) (mvT hZ (hw _ tw127)) (notFace_of_selects (args := #[]) (mvT hZ (hw _ tw129))) (mvT hZ (hw _ tw129)) (mvT hZ (hw _ tw128)) (by decide) (backOf (W := 0) (rm22_same_4 l Z a0 hw [] b10 b46 ((((0 : Int32) + (1 : Int32)) + (1 : Int32)) + (1 : Int32)) wcs b356 k357 b80 T459.heap n0 (Nat.le_trans Z0 K467.1) O468 S_CS hcs q460 q461 q462 q463 q464 q465 q466 c470) hZ (hw _ tw130) (hw _ tw2) (by decide) (by decide)) q471a q471c (g := (mkF m 176 #[.val (.int p0), .val (.int p1), .val (.int p2), .val (.int p3), .val (.ref b10), .val (.ref b29), .val (.ref b46), .val (.ref b63), .val (.ref b80), .val (.int 3), .val (.int 1), .val .null] [(.ref b46), (.ref b10)])) rfl (by rw [hml]; rfl) (Steps.refl _) (argsL := [(.ref b46)]) (rest := []) (lenOf pd17 rfl) rfl (by show 2 * 0 + _ ≤ _; exact Nat.le_of_eq rfl) (hb hby at_176) (fun _ _ => ⟨rfl, eq469, (by decide : 18 + 0 ≤ _), (by decide : 107 + 0 ≤ _)⟩)
        dsimp only [Pt.U, Pt.locs, Pt.cells, Pt.slots] at X471 l471 y471 z471 st471 hQ471
        subst l471 y471 z471
        obtain ⟨rfl, Nq471, eq471⟩ := hQ471
        have N471 := Fr.app N469 Nq471
        refine GoW.by st471 ?_
        show GoW _ _ _ _ _ _ _ (T471.setTop (mkF m 179 _ [(.ref b80)]))
        refine GoW.st (t' := T471.setTop (mkF m 189 #[.val (.int p0), .val (.int p1), .val (.int p2), .val (.int p3), .val (.ref b10), .val (.ref b29), .val (.ref b46), .val (.ref b63), .val (.ref b80), .val (.int 3), .val (.int 1), .val .null] [(.int 1)])) (fun target kt => ?_) ?_
        · refine XS.aload X471.here hx rfl (hb hby at_179) rfl rfl ?_
          refine Jvm.RoadKit.acmp (g := (mkF m 181 #[.val (.int p0), .val (.int p1), .val (.int p2), .val (.int p3), .val (.ref b10), .val (.ref b29), .val (.ref b46), .val (.ref b63), .val (.ref b80), .val (.int 3), .val (.int 1), .val .null] [(.ref b80), (.ref b80)])) X471 hx rfl rfl rfl (pc0 := 181) (pc' := 184) (same := true) rfl (hb hby at_181) rfl (decide_eq_true rfl) (by decide) (by decide) ?_
          refine XS.iconst X471.here hx rfl (hb hby at_184) ?_
          refine XS.goto X471.here hx rfl (pc0 := 185) (pc' := 189) rfl (hb hby at_185) (by decide) (by decide) ?_
          exact kt
        refine GoW.ret X471 hSi (by rw [eq471]; exact (Nat.le_refl _)) (v := some (.int 1)) (fun h => by rw [hret] at h; cases h) hlk (fun fs hr => retN X471 hx (t := .boolean) hret (by simp) (hb hby at_189) hr) ?_ (by decide) (by decide)
        show Q0 Z p0 p1 p2 p3 wn kn wm wcs wc clc h0 n0 _ T471.heap _
        rw [eq471]
        exact ⟨rfl, N471, K467⟩
      · skip
        have c472 := q360.keep Kq398
        have c473 := q361.keep Kq398 (ninS ne397 nin0)
        have c474 := q362.keep Kq398 (ninS ne397 nin0)
        have c475 := q363.keep Kq398 (ninS ne397 nin0)
        have c476 := q364.keep Kq398 (ninS ne397 nin0)
        have c477 := q365.keep Kq398
        have c478 := (((q69.keep Kq79).keep Kq344).keep Kq355).keep Kq398
        have o479 : b47 < b63 := Nat.lt_of_lt_of_le q55.lt q67
        have o480 : b10 < b63 := Nat.lt_trans o380 o479
        have ne481 : b10 ≠ b63 := Nat.ne_of_lt o480
        have o482 : b63 < b356 := Nat.lt_of_lt_of_le q69.lt (Nat.le_trans (Nat.le_trans Kq79.1 Kq344.1) q358)
        have ne483 : b63 ≠ b356 := Nat.ne_of_lt o482
        have c484 := (((q70.keep Kq79 nin0).keep Kq344 nin0).keep Kq355 (ninS (Ne.symm ne481) nin0)).keep Kq398 (ninS ne483 nin0)
        have c485 := (((q71.keep Kq79 nin0).keep Kq344 nin0).keep Kq355 (ninS (Ne.symm ne481) nin0)).keep Kq398 (ninS ne483 nin0)
        have ne486 : b10 ≠ b64 := Nat.ne_of_lt o394
        have ne487 : b64 ≠ b356 := Nat.ne_of_lt o395
        have c488 := (((q72.keep Kq79 nin0).keep Kq344 nin0).keep Kq355 (ninS (Ne.symm ne486) nin0)).keep Kq398 (ninS ne487 nin0)
        have c489 := c383.keep Kq398
        have o490 : b29 < b47 := Nat.lt_of_lt_of_le q35.lt q51
        have o491 : b29 < b64 := Nat.lt_trans o490 o393
        have o492 : b29 < b356 := Nat.lt_trans o491 o395
        have ne493 : b29 ≠ b356 := Nat.ne_of_lt o492
        have c494 := c386.keep Kq398 (ninS ne493 nin0)
        have c495 := c387.keep Kq398 (ninS ne493 nin0)
        have o496 : b30 < b64 := Nat.lt_trans o379 o393
        have o497 : b30 < b356 := Nat.lt_trans o496 o395
        have ne498 : b30 ≠ b356 := Nat.ne_of_lt o497
        have c499 := c389.keep Kq398 (ninS ne498 nin0)
        have o500 : b29 < b63 := Nat.lt_trans o490 o479
        have ne501 : b29 ≠ b63 := Nat.ne_of_lt o500
        obtain ⟨cq502, kq502, q502a, q502b, q502c⟩ := isOf hZ rfl c472
        obtain ⟨_, _, ⟨T502, L502, k502, n502⟩, -, X502, hSn502, hgr502, ⟨Lc502, hQ502, l502, y502, z502⟩, st502⟩ := X398.virtualBackS hx (y := (⟨sq0, "put", sq4⟩ : MethodName)) (z := (⟨sq0, "put", sq4⟩ : MethodName)) hown (mvT hZ (hw _ tw49)) (mvT hZ (hw _ tw50)) (notFace_of_selects (args := #[]) (mvT hZ (hw _ tw52))) (mvT hZ (hw _ tw52)) (mvT hZ (hw _ tw51)) (by decide) (backOfS (s := (s.setVm T398.vm)) (W := 0) (rm9_ne_1_4_n l Z a0 hw [] b10 b63 ((0 : Int32) + (1 : Int32)) wcs wm b356 k357 b29 (.ref b80) b64 k65 i66 b30 k31 i32 T398.heap n0 (Nat.le_trans Z0 K400.1) O401 S_CS hcs M_AO c472 c473 c474 c475 c476 c477 q399 c478 c484 c485 c488 c489 c494 c495 c499 (Ne.symm ne501) g13 g368 q359 ne397 hc402) hZ (hw _ tw53) (hw _ tw2) (by decide) (by decide)) q502a q502c (g := (mkF m 98 #[.val (.int p0), .val (.int p1), .val (.int p2), .val (.int p3), .val (.ref b10), .val (.ref b29), .val (.ref b46), .val (.ref b63), .val (.ref b80), .val (.int 3), .unset, .unset] [.null, (.ref b63), (.ref b10)])) rfl (by rw [hml]; rfl) (Steps.refl _) (argsL := [(.ref b63), .null]) (rest := []) (lenOf pd18 rfl) rfl (by show 2 * 0 + _ ≤ _; exact Nat.le_of_eq rfl) (hb hby at_98) (fun _ _ => ⟨rfl, rfl, (by decide : 14 + 2 ≤ _), (by decide : 67 + 20 ≤ _)⟩)
        dsimp only [Pt.U, Pt.locs, Pt.cells, Pt.slots] at X502 l502 y502 z502 st502 hQ502 hSn502 hgr502
        subst l502 y502 z502
        have hSi := foldS hSi (Nat.le_refl _) hSn502 hgr502
        have hown : T502.vm.findClass "com/example/graphweave/graphweave/json/JsonObjectClearPinLaw" = some m.cls := by rw [hSn502.1.alike.findClass]; exact hown
        have hZ : Z.Warmed39 T502.vm := State.Warmed39.trans (t := (s.setVm T398.vm)) hZ hSn502.1
        have X502 : Stand p l e room_1 (s.setVm T502.vm) m #[(.int p0), (.int p1), (.int p2), (.int p3)] below meth c T502 _ _ _ := X502
        obtain ⟨rfl, Nq502, Kq502, q503, q504, q505, q506, q507, q508, q509⟩ := hQ502
        have N502 := Fr.app N398 Nq502
        have K510 := K400.trans Kq502 (allS (Or.inr sz12) (allS (Or.inr sz367) all0))
        have O511 := O401.keep Kq502 (allS g13 (allS g368 all0))
        refine GoW.by st502 ?_
        show GoW _ _ _ _ _ _ _ (T502.setTop (mkF m 101 _ [.null]))
        refine GoW.st (t' := T502.setTop (mkF m 104 #[.val (.int p0), .val (.int p1), .val (.int p2), .val (.int p3), .val (.ref b10), .val (.ref b29), .val (.ref b46), .val (.ref b63), .val (.ref b80), .val (.int 3), .unset, .unset] [(.ref b10)])) (fun target kt => ?_) ?_
        · refine XS.pop X502.here hx rfl (hb hby at_101) rfl rfl ?_
          refine XS.aload X502.here hx rfl (hb hby at_102) rfl rfl ?_
          exact kt
        obtain ⟨cq512, kq512, q512a, q512b, q512c⟩ := isOf hZ rfl q503
        obtain ⟨_, _, ⟨T512, L512, k512, n512⟩, -, X512, ⟨Lc512, hQ512, l512, y512, z512⟩, st512⟩ := X502.virtualBack hx (y := (⟨sq0, "clear", "()V"⟩ : MethodName)) (z := (⟨sq0, "clear", "()V"⟩ : MethodName)) hown (mvT hZ (hw _ tw105)) (mvT hZ (hw _ tw106)) (notFace_of_selects (args := #[]) (mvT hZ (hw _ tw108))) (mvT hZ (hw _ tw108)) (mvT hZ (hw _ tw107)) (by decide) (backOf (W := 0) (rm17_4_2 l Z a0 hw [] b10 b356 k357 (.ref b29) (.ref b80) (.ref b63) .null (((0 : Int32) + (1 : Int32)) + (1 : Int32)) T502.heap n0 (Nat.le_trans Z0 K510.1) O511  q503 q504 q505 q506 q507 q508 q509 g13 g368 ne397) hZ (hw _ tw109) (hw _ tw2) (by decide) (by decide)) q512a q512c (g := (mkF m 104 #[.val (.int p0), .val (.int p1), .val (.int p2), .val (.int p3), .val (.ref b10), .val (.ref b29), .val (.ref b46), .val (.ref b63), .val (.ref b80), .val (.int 3), .unset, .unset] [(.ref b10)])) rfl (by rw [hml]; rfl) (Steps.refl _) (argsL := []) (rest := []) (lenOf pd0 rfl) rfl (by show 2 * 0 + _ ≤ _; exact Nat.le_of_eq rfl) (hb hby at_104) (fun _ _ => ⟨rfl, rfl, (by decide : 16 + 0 ≤ _), (by decide : 87 + 0 ≤ _)⟩)
        dsimp only [Pt.U, Pt.locs, Pt.cells, Pt.slots] at X512 l512 y512 z512 st512 hQ512
        subst l512 y512 z512
        obtain ⟨rfl, Nq512, Kq512, q513, q514, q515, q516, q517, q518, q519⟩ := hQ512
        have N512 := Fr.app N502 Nq512
        have K520 := K510.trans Kq512 (allS (Or.inr sz12) (allS (Or.inr sz367) all0))
        have O521 := O511.keep Kq512 (allS g13 (allS g368 all0))
        refine GoW.by st512 ?_
        show GoW _ _ _ _ _ _ _ (T512.setTop (mkF m 107 _ []))
        refine GoW.st (t' := T512.setTop (mkF m 109 #[.val (.int p0), .val (.int p1), .val (.int p2), .val (.int p3), .val (.ref b10), .val (.ref b29), .val (.ref b46), .val (.ref b63), .val (.ref b80), .val (.int 3), .unset, .unset] [(.ref b10)])) (fun target kt => ?_) ?_
        · refine XS.aload X512.here hx rfl (hb hby at_107) rfl rfl ?_
          exact kt
        obtain ⟨cq522, kq522, q522a, q522b, q522c⟩ := isOf hZ rfl q513
        obtain ⟨_, _, ⟨T522, L522, k522, n522⟩, -, X522, ⟨Lc522, hQ522, l522, y522, z522⟩, st522⟩ := X512.virtualBack hx (y := (⟨sq0, "size", "()I"⟩ : MethodName)) (z := (⟨sq0, "size", "()I"⟩ : MethodName)) hown (mvT hZ (hw _ tw116)) (mvT hZ (hw _ tw117)) (notFace_of_selects (args := #[]) (mvT hZ (hw _ tw119))) (mvT hZ (hw _ tw119)) (mvT hZ (hw _ tw118)) (by decide) (backOf (W := 0) (rm20 l Z a0 hw [] b10 (0 : Int32) T512.heap n0 (Nat.le_trans Z0 K520.1) O521  q516) hZ (hw _ tw120) (hw _ tw2) (by decide) (by decide)) q522a q522c (g := (mkF m 109 #[.val (.int p0), .val (.int p1), .val (.int p2), .val (.int p3), .val (.ref b10), .val (.ref b29), .val (.ref b46), .val (.ref b63), .val (.ref b80), .val (.int 3), .unset, .unset] [(.ref b10)])) rfl (by rw [hml]; rfl) (Steps.refl _) (argsL := []) (rest := []) (lenOf pd16 rfl) rfl (by show 2 * 0 + _ ≤ _; exact Nat.le_of_eq rfl) (hb hby at_109) (fun _ _ => ⟨rfl, rfl, (by decide : 16 + 0 ≤ _), (by decide : 87 + 0 ≤ _)⟩)
        dsimp only [Pt.U, Pt.locs, Pt.cells, Pt.slots] at X522 l522 y522 z522 st522 hQ522
        subst l522 y522 z522
        obtain ⟨rfl, Nq522, eq522⟩ := hQ522
        have N522 := Fr.app N512 Nq522
        refine GoW.by st522 ?_
        show GoW _ _ _ _ _ _ _ (T522.setTop (mkF m 112 _ [(.int 0)]))
        refine GoW.st (t' := T522.setTop (mkF m 119 #[.val (.int p0), .val (.int p1), .val (.int p2), .val (.int p3), .val (.ref b10), .val (.ref b29), .val (.ref b46), .val (.ref b63), .val (.ref b80), .val (.int 3), .unset, .unset] [(.ref b29), (.ref b10)])) (fun target kt => ?_) ?_
        · refine XS.ifNo X522.here hx rfl (hb hby at_112) rfl ((if0 _ _).trans (teq (by decide : (0 : Int32) = (0 : Int32))).2) ?_
          refine XS.aload X522.here hx rfl (hb hby at_115) rfl rfl ?_
          refine XS.aload X522.here hx rfl (hb hby at_117) rfl rfl ?_
          exact kt
        have c523 := (c489.keep Kq502).keep Kq512
        obtain ⟨cq524, kq524, q524a, q524b, q524c⟩ := isOf hZ eq522 q513
        obtain ⟨_, _, ⟨T524, L524, k524, n524⟩, -, X524, ⟨Lc524, hQ524, l524, y524, z524⟩, st524⟩ := X522.virtualBack hx (y := (⟨sq0, "containsKey", "(Ljava/lang/Object;)Z"⟩ : MethodName)) (z := (⟨sq0, "containsKey", "(Ljava/lang/Object;)Z"⟩ : MethodName)) hown (mvT hZ (hw _ tw121)) (mvT hZ (hw _ tw122)) (notFace_of_selects (args := #[]) (mvT hZ (hw _ tw124))) (mvT hZ (hw _ tw124)) (mvT hZ (hw _ tw123)) (by decide) (backOf (W := 0) (rm21_4 l Z a0 hw [] b10 b29 ((((0 : Int32) + (1 : Int32)) + (1 : Int32)) + (1 : Int32)) wcs b356 k357 T512.heap n0 (Nat.le_trans Z0 K520.1) O521 S_CS hcs q513 q514 q515 q516 q517 q518 q519 c523) hZ (hw _ tw125) (hw _ tw2) (by decide) (by decide)) q524a q524c (g := (mkF m 119 #[.val (.int p0), .val (.int p1), .val (.int p2), .val (.int p3), .val (.ref b10), .val (.ref b29), .val (.ref b46), .val (.ref b63), .val (.ref b80), .val (.int 3), .unset, .unset] [(.ref b29), (.ref b10)])) rfl (by rw [hml]; rfl) (Steps.refl _) (argsL := [(.ref b29)]) (rest := []) (lenOf pd6 rfl) rfl (by show 2 * 0 + _ ≤ _; exact Nat.le_of_eq rfl) (hb hby at_119) (fun _ _ => ⟨rfl, eq522, (by decide : 16 + 0 ≤ _), (by decide : 87 + 0 ≤ _)⟩)
        dsimp only [Pt.U, Pt.locs, Pt.cells, Pt.slots] at X524 l524 y524 z524 st524 hQ524
        subst l524 y524 z524
        obtain ⟨rfl, Nq524, eq524⟩ := hQ524
        have N524 := Fr.app N522 Nq524
        refine GoW.by st524 ?_
        show GoW _ _ _ _ _ _ _ (T524.setTop (mkF m 122 _ [(.int 0)]))
        refine GoW.st (t' := T524.setTop (mkF m 129 #[.val (.int p0), .val (.int p1), .val (.int p2), .val (.int p3), .val (.ref b10), .val (.ref b29), .val (.ref b46), .val (.ref b63), .val (.ref b80), .val (.int 3), .unset, .unset] [(.ref b46), (.ref b10)])) (fun target kt => ?_) ?_
        · refine XS.ifNo X524.here hx rfl (hb hby at_122) rfl ((if0 _ _).trans (teq (by decide : (0 : Int32) = (0 : Int32))).2) ?_
          refine XS.aload X524.here hx rfl (hb hby at_125) rfl rfl ?_
          refine XS.aload X524.here hx rfl (hb hby at_127) rfl rfl ?_
          exact kt
        have c525 := ((c372.keep Kq398).keep Kq502).keep Kq512
        obtain ⟨cq526, kq526, q526a, q526b, q526c⟩ := isOf hZ eq524 q513
        obtain ⟨_, _, ⟨T526, L526, k526, n526⟩, -, X526, ⟨Lc526, hQ526, l526, y526, z526⟩, st526⟩ := X524.virtualBack hx (y := (⟨sq0, "get", "(Ljava/lang/Object;)Ljava/lang/Object;"⟩ : MethodName)) (z := (⟨sq0, "get", "(Ljava/lang/Object;)Ljava/lang/Object;"⟩ : MethodName)) hown (mvT hZ (hw _ tw126)) (mvT hZ (hw _ tw127)) (notFace_of_selects (args := #[]) (mvT hZ (hw _ tw129))) (mvT hZ (hw _ tw129)) (mvT hZ (hw _ tw128)) (by decide) (backOf (W := 0) (rm22_none_4 l Z a0 hw [] b10 b46 ((((0 : Int32) + (1 : Int32)) + (1 : Int32)) + (1 : Int32)) wcs b356 k357 T512.heap n0 (Nat.le_trans Z0 K520.1) O521 S_CS hcs q513 q514 q515 q516 q517 q518 q519 c525) hZ (hw _ tw130) (hw _ tw2) (by decide) (by decide)) q526a q526c (g := (mkF m 129 #[.val (.int p0), .val (.int p1), .val (.int p2), .val (.int p3), .val (.ref b10), .val (.ref b29), .val (.ref b46), .val (.ref b63), .val (.ref b80), .val (.int 3), .unset, .unset] [(.ref b46), (.ref b10)])) rfl (by rw [hml]; rfl) (Steps.refl _) (argsL := [(.ref b46)]) (rest := []) (lenOf pd17 rfl) rfl (by show 2 * 0 + _ ≤ _; exact Nat.le_of_eq rfl) (hb hby at_129) (fun _ _ => ⟨rfl, eq524, (by decide : 16 + 0 ≤ _), (by decide : 87 + 0 ≤ _)⟩)
        dsimp only [Pt.U, Pt.locs, Pt.cells, Pt.slots] at X526 l526 y526 z526 st526 hQ526
        subst l526 y526 z526
        obtain ⟨rfl, Nq526, eq526⟩ := hQ526
        have N526 := Fr.app N524 Nq526
        refine GoW.by st526 ?_
        show GoW _ _ _ _ _ _ _ (T526.setTop (mkF m 132 _ [.null]))
        refine GoW.st (t' := T526.setTop (mkF m 148 #[.val (.int p0), .val (.int p1), .val (.int p2), .val (.int p3), .val (.ref b10), .val (.ref b29), .val (.ref b46), .val (.ref b63), .val (.ref b80), .val (.int 3), .val (.int 1), .unset] [(.ref b80), (.ref b46), (.ref b10)])) (fun target kt => ?_) ?_
        · refine XS.ifnonnullNo X526.here hx rfl (hb hby at_132) rfl ?_
          refine XS.iconst X526.here hx rfl (hb hby at_135) ?_
          refine XS.goto X526.here hx rfl (pc0 := 136) (pc' := 140) rfl (hb hby at_136) (by decide) (by decide) ?_
          refine XS.istore X526.here hx rfl (hb hby at_140) rfl (l' := #[.val (.int p0), .val (.int p1), .val (.int p2), .val (.int p3), .val (.ref b10), .val (.ref b29), .val (.ref b46), .val (.ref b63), .val (.ref b80), .val (.int 3), .val (.int 1), .unset]) rfl ?_
          refine XS.aload X526.here hx rfl (hb hby at_142) rfl rfl ?_
          refine XS.aload X526.here hx rfl (hb hby at_144) rfl rfl ?_
          refine XS.aload X526.here hx rfl (hb hby at_146) rfl rfl ?_
          exact kt
        have c527 := ((c390.keep Kq398).keep Kq502).keep Kq512
        obtain ⟨cq528, kq528, q528a, q528b, q528c⟩ := isOf hZ eq526 q513
        obtain ⟨_, _, ⟨T528, L528, k528, n528⟩, -, X528, hSn528, hgr528, ⟨Lc528, hQ528, l528, y528, z528⟩, st528⟩ := X526.virtualBackS hx (y := (⟨sq0, "put", sq4⟩ : MethodName)) (z := (⟨sq0, "put", sq4⟩ : MethodName)) hown (mvT hZ (hw _ tw49)) (mvT hZ (hw _ tw50)) (notFace_of_selects (args := #[]) (mvT hZ (hw _ tw52))) (mvT hZ (hw _ tw52)) (mvT hZ (hw _ tw51)) (by decide) (backOfS (s := (s.setVm T502.vm)) (W := 0) (rm9_none_0_4_R l Z a0 hw [] b10 b46 b80 ((((0 : Int32) + (1 : Int32)) + (1 : Int32)) + (1 : Int32)) wcs wm b356 k357 T512.heap n0 (Nat.le_trans Z0 K520.1) O521 S_CS hcs M_AO q513 q514 q515 q516 q517 q518 q519 c525 g13 g368 q359 ne397 c527) hZ (hw _ tw53) (hw _ tw2) (by decide) (by decide)) q528a q528c (g := (mkF m 148 #[.val (.int p0), .val (.int p1), .val (.int p2), .val (.int p3), .val (.ref b10), .val (.ref b29), .val (.ref b46), .val (.ref b63), .val (.ref b80), .val (.int 3), .val (.int 1), .unset] [(.ref b80), (.ref b46), (.ref b10)])) rfl (by rw [hml]; rfl) (Steps.refl _) (argsL := [(.ref b46), (.ref b80)]) (rest := []) (lenOf pd18 rfl) rfl (by show 2 * 0 + _ ≤ _; exact Nat.le_of_eq rfl) (hb hby at_148) (fun _ _ => ⟨rfl, eq526, (by decide : 16 + 2 ≤ _), (by decide : 87 + 20 ≤ _)⟩)
        dsimp only [Pt.U, Pt.locs, Pt.cells, Pt.slots] at X528 l528 y528 z528 st528 hQ528 hSn528 hgr528
        subst l528 y528 z528
        have hSi := foldS hSi (by rw [eq526]; exact (Nat.le_trans (Nat.le_refl _) Kq512.1)) hSn528 hgr528
        have hown : T528.vm.findClass "com/example/graphweave/graphweave/json/JsonObjectClearPinLaw" = some m.cls := by rw [hSn528.1.alike.findClass]; exact hown
        have hZ : Z.Warmed39 T528.vm := State.Warmed39.trans (t := (s.setVm T502.vm)) hZ hSn528.1
        have X528 : Stand p l e room_1 (s.setVm T528.vm) m #[(.int p0), (.int p1), (.int p2), (.int p3)] below meth c T528 _ _ _ := X528
        obtain ⟨rfl, Nq528, Kq528, q529, q530, q531, q532, q533, q534, q535⟩ := hQ528
        have N528 := Fr.app N526 Nq528
        have K536 := K520.trans Kq528 (allS (Or.inr sz12) (allS (Or.inr sz367) all0))
        have O537 := O521.keep Kq528 (allS g13 (allS g368 all0))
        refine GoW.by st528 ?_
        show GoW _ _ _ _ _ _ _ (T528.setTop (mkF m 151 _ [.null]))
        refine GoW.st (t' := T528.setTop (mkF m 165 #[.val (.int p0), .val (.int p1), .val (.int p2), .val (.int p3), .val (.ref b10), .val (.ref b29), .val (.ref b46), .val (.ref b63), .val (.ref b80), .val (.int 3), .val (.int 1), .val .null] [(.ref b10)])) (fun target kt => ?_) ?_
        · refine XS.astore X528.here hx rfl (hb hby at_151) rfl rfl (l' := #[.val (.int p0), .val (.int p1), .val (.int p2), .val (.int p3), .val (.ref b10), .val (.ref b29), .val (.ref b46), .val (.ref b63), .val (.ref b80), .val (.int 3), .val (.int 1), .val .null]) rfl ?_
          refine XS.iload X528.here hx rfl (hb hby at_153) rfl ?_
          refine XS.ifNo X528.here hx rfl (hb hby at_155) rfl ((if0 _ _).trans (feq (by decide : ¬ ((1 : Int32) = (0 : Int32)))).1) ?_
          refine XS.aload X528.here hx rfl (hb hby at_158) rfl rfl ?_
          refine XS.ifnonnullNo X528.here hx rfl (hb hby at_160) rfl ?_
          refine XS.aload X528.here hx rfl (hb hby at_163) rfl rfl ?_
          exact kt
        obtain ⟨cq538, kq538, q538a, q538b, q538c⟩ := isOf hZ rfl q529
        obtain ⟨_, _, ⟨T538, L538, k538, n538⟩, -, X538, ⟨Lc538, hQ538, l538, y538, z538⟩, st538⟩ := X528.virtualBack hx (y := (⟨sq0, "size", "()I"⟩ : MethodName)) (z := (⟨sq0, "size", "()I"⟩ : MethodName)) hown (mvT hZ (hw _ tw116)) (mvT hZ (hw _ tw117)) (notFace_of_selects (args := #[]) (mvT hZ (hw _ tw119))) (mvT hZ (hw _ tw119)) (mvT hZ (hw _ tw118)) (by decide) (backOf (W := 0) (rm20 l Z a0 hw [] b10 (1 : Int32) T528.heap n0 (Nat.le_trans Z0 K536.1) O537  q532) hZ (hw _ tw120) (hw _ tw2) (by decide) (by decide)) q538a q538c (g := (mkF m 165 #[.val (.int p0), .val (.int p1), .val (.int p2), .val (.int p3), .val (.ref b10), .val (.ref b29), .val (.ref b46), .val (.ref b63), .val (.ref b80), .val (.int 3), .val (.int 1), .val .null] [(.ref b10)])) rfl (by rw [hml]; rfl) (Steps.refl _) (argsL := []) (rest := []) (lenOf pd16 rfl) rfl (by show 2 * 0 + _ ≤ _; exact Nat.le_of_eq rfl) (hb hby at_165) (fun _ _ => ⟨rfl, rfl, (by decide : 18 + 0 ≤ _), (by decide : 107 + 0 ≤ _)⟩)
        dsimp only [Pt.U, Pt.locs, Pt.cells, Pt.slots] at X538 l538 y538 z538 st538 hQ538
        subst l538 y538 z538
        obtain ⟨rfl, Nq538, eq538⟩ := hQ538
        have N538 := Fr.app N528 Nq538
        refine GoW.by st538 ?_
        show GoW _ _ _ _ _ _ _ (T538.setTop (mkF m 168 _ [(.int 1)]))
        refine GoW.st (t' := T538.setTop (mkF m 176 #[.val (.int p0), .val (.int p1), .val (.int p2), .val (.int p3), .val (.ref b10), .val (.ref b29), .val (.ref b46), .val (.ref b63), .val (.ref b80), .val (.int 3), .val (.int 1), .val .null] [(.ref b46), (.ref b10)])) (fun target kt => ?_) ?_
        · refine XS.iconst X538.here hx rfl (hb hby at_168) ?_
          refine XS.icmpNo X538.here hx rfl (hb hby at_169) rfl (teq (by decide : (1 : Int32) = (1 : Int32))).2 ?_
          refine XS.aload X538.here hx rfl (hb hby at_172) rfl rfl ?_
          refine XS.aload X538.here hx rfl (hb hby at_174) rfl rfl ?_
          exact kt
        have c539 := c525.keep Kq528
        obtain ⟨cq540, kq540, q540a, q540b, q540c⟩ := isOf hZ eq538 q529
        obtain ⟨_, _, ⟨T540, L540, k540, n540⟩, -, X540, ⟨Lc540, hQ540, l540, y540, z540⟩, st540⟩ := X538.virtualBack hx (y := (⟨sq0, "get", "(Ljava/lang/Object;)Ljava/lang/Object;"⟩ : MethodName)) (z := (⟨sq0, "get", "(Ljava/lang/Object;)Ljava/lang/Object;"⟩ : MethodName)) hown (mvT hZ (hw _ tw126)) (mvT hZ (hw _ tw127)) (notFace_of_selects (args := #[]) (mvT hZ (hw _ tw129))) (mvT hZ (hw _ tw129)) (mvT hZ (hw _ tw128)) (by decide) (backOf (W := 0) (rm22_same_4 l Z a0 hw [] b10 b46 (((((0 : Int32) + (1 : Int32)) + (1 : Int32)) + (1 : Int32)) + (1 : Int32)) wcs b356 k357 b80 T528.heap n0 (Nat.le_trans Z0 K536.1) O537 S_CS hcs q529 q530 q531 q532 q533 q534 q535 c539) hZ (hw _ tw130) (hw _ tw2) (by decide) (by decide)) q540a q540c (g := (mkF m 176 #[.val (.int p0), .val (.int p1), .val (.int p2), .val (.int p3), .val (.ref b10), .val (.ref b29), .val (.ref b46), .val (.ref b63), .val (.ref b80), .val (.int 3), .val (.int 1), .val .null] [(.ref b46), (.ref b10)])) rfl (by rw [hml]; rfl) (Steps.refl _) (argsL := [(.ref b46)]) (rest := []) (lenOf pd17 rfl) rfl (by show 2 * 0 + _ ≤ _; exact Nat.le_of_eq rfl) (hb hby at_176) (fun _ _ => ⟨rfl, eq538, (by decide : 18 + 0 ≤ _), (by decide : 107 + 0 ≤ _)⟩)
        dsimp only [Pt.U, Pt.locs, Pt.cells, Pt.slots] at X540 l540 y540 z540 st540 hQ540
        subst l540 y540 z540
        obtain ⟨rfl, Nq540, eq540⟩ := hQ540
        have N540 := Fr.app N538 Nq540
        refine GoW.by st540 ?_
        show GoW _ _ _ _ _ _ _ (T540.setTop (mkF m 179 _ [(.ref b80)]))
        refine GoW.st (t' := T540.setTop (mkF m 189 #[.val (.int p0), .val (.int p1), .val (.int p2), .val (.int p3), .val (.ref b10), .val (.ref b29), .val (.ref b46), .val (.ref b63), .val (.ref b80), .val (.int 3), .val (.int 1), .val .null] [(.int 1)])) (fun target kt => ?_) ?_
        · refine XS.aload X540.here hx rfl (hb hby at_179) rfl rfl ?_
          refine Jvm.RoadKit.acmp (g := (mkF m 181 #[.val (.int p0), .val (.int p1), .val (.int p2), .val (.int p3), .val (.ref b10), .val (.ref b29), .val (.ref b46), .val (.ref b63), .val (.ref b80), .val (.int 3), .val (.int 1), .val .null] [(.ref b80), (.ref b80)])) X540 hx rfl rfl rfl (pc0 := 181) (pc' := 184) (same := true) rfl (hb hby at_181) rfl (decide_eq_true rfl) (by decide) (by decide) ?_
          refine XS.iconst X540.here hx rfl (hb hby at_184) ?_
          refine XS.goto X540.here hx rfl (pc0 := 185) (pc' := 189) rfl (hb hby at_185) (by decide) (by decide) ?_
          exact kt
        refine GoW.ret X540 hSi (by rw [eq540]; exact (Nat.le_refl _)) (v := some (.int 1)) (fun h => by rw [hret] at h; cases h) hlk (fun fs hr => retN X540 hx (t := .boolean) hret (by simp) (hb hby at_189) hr) ?_ (by decide) (by decide)
        show Q0 Z p0 p1 p2 p3 wn kn wm wcs wc clc h0 n0 _ T540.heap _
        rw [eq540]
        exact ⟨rfl, N540, K536⟩
    · skip
      have c541 := (((q52.keep Kq62).keep Kq79).keep Kq344).keep Kq355
      have o542 : b10 < b30 := Nat.lt_of_lt_of_le A10.lt (Nat.le_trans Kq20.1 q34)
      have o543 : b30 < b46 := Nat.lt_of_lt_of_le q38.lt q50
      have o544 : b10 < b46 := Nat.lt_trans o542 o543
      have ne545 : b10 ≠ b46 := Nat.ne_of_lt o544
      have c546 := (((q53.keep Kq62 nin0).keep Kq79 nin0).keep Kq344 nin0).keep Kq355 (ninS (Ne.symm ne545) nin0)
      have c547 := (((q54.keep Kq62 nin0).keep Kq79 nin0).keep Kq344 nin0).keep Kq355 (ninS (Ne.symm ne545) nin0)
      have o548 : b30 < b47 := Nat.lt_of_lt_of_le q38.lt q51
      have o549 : b10 < b47 := Nat.lt_trans o542 o548
      have ne550 : b10 ≠ b47 := Nat.ne_of_lt o549
      have c551 := (((q55.keep Kq62 nin0).keep Kq79 nin0).keep Kq344 nin0).keep Kq355 (ninS (Ne.symm ne550) nin0)
      have c552 := c354.keep Kq355
      have o553 : b10 < b29 := Nat.lt_of_lt_of_le A10.lt (Nat.le_trans Kq20.1 q33)
      have ne554 : b10 ≠ b29 := Nat.ne_of_lt o553
      have c555 := ((((q36.keep Kq45 nin0).keep Kq62 nin0).keep Kq79 nin0).keep Kq344 nin0).keep Kq355 (ninS (Ne.symm ne554) nin0)
      have c556 := ((((q37.keep Kq45 nin0).keep Kq62 nin0).keep Kq79 nin0).keep Kq344 nin0).keep Kq355 (ninS (Ne.symm ne554) nin0)
      have ne557 : b10 ≠ b30 := Nat.ne_of_lt o542
      have c558 := ((((q38.keep Kq45 nin0).keep Kq62 nin0).keep Kq79 nin0).keep Kq344 nin0).keep Kq355 (ninS (Ne.symm ne557) nin0)
      have c559 := (q81.keep Kq344).keep Kq355
      have o560 : b29 < b46 := Nat.lt_of_lt_of_le q35.lt q50
      have ne561 : b29 ≠ b46 := Nat.ne_of_lt o560
      have o562 : b47 < b64 := Nat.lt_of_lt_of_le q55.lt q68
      have o563 : b10 < b64 := Nat.lt_trans o549 o562
      have o564 : b64 < b356 := Nat.lt_of_lt_of_le q72.lt (Nat.le_trans (Nat.le_trans Kq79.1 Kq344.1) q358)
      have o565 : b10 < b356 := Nat.lt_trans o563 o564
      have ne566 : b10 ≠ b356 := Nat.ne_of_lt o565
      obtain ⟨cq567, kq567, q567a, q567b, q567c⟩ := isOf hZ rfl q360
      obtain ⟨_, _, ⟨T567, L567, k567, n567⟩, -, X567, hSn567, hgr567, ⟨Lc567, hQ567, l567, y567, z567⟩, st567⟩ := X355.virtualBackS hx (y := (⟨sq0, "put", sq4⟩ : MethodName)) (z := (⟨sq0, "put", sq4⟩ : MethodName)) hown (mvT hZ (hw _ tw49)) (mvT hZ (hw _ tw50)) (notFace_of_selects (args := #[]) (mvT hZ (hw _ tw52))) (mvT hZ (hw _ tw52)) (mvT hZ (hw _ tw51)) (by decide) (backOfS (s := (s.setVm T355.vm)) (W := 0) (rm9_ne_1_4_R l Z a0 hw [] b10 b46 b80 ((0 : Int32) + (1 : Int32)) wcs wm b356 k357 b29 (.ref b345) b47 k48 i49 b30 k31 i32 T355.heap n0 (Nat.le_trans Z0 K369.1) O370 S_CS hcs M_AO q360 q361 q362 q363 q364 q365 q366 c541 c546 c547 c551 c552 c555 c556 c558 (Ne.symm ne561) g13 g368 q359 ne566 c559 hc371) hZ (hw _ tw53) (hw _ tw2) (by decide) (by decide)) q567a q567c (g := (mkF m 83 #[.val (.int p0), .val (.int p1), .val (.int p2), .val (.int p3), .val (.ref b10), .val (.ref b29), .val (.ref b46), .val (.ref b63), .val (.ref b80), .val (.int 3), .unset, .unset] [(.ref b80), (.ref b46), (.ref b10)])) rfl (by rw [hml]; rfl) (Steps.refl _) (argsL := [(.ref b46), (.ref b80)]) (rest := []) (lenOf pd18 rfl) rfl (by show 2 * 0 + _ ≤ _; exact Nat.le_of_eq rfl) (hb hby at_83) (fun _ _ => ⟨rfl, rfl, (by decide : 12 + 2 ≤ _), (by decide : 47 + 20 ≤ _)⟩)
      dsimp only [Pt.U, Pt.locs, Pt.cells, Pt.slots] at X567 l567 y567 z567 st567 hQ567 hSn567 hgr567
      subst l567 y567 z567
      have hSi := foldS hSi (Nat.le_refl _) hSn567 hgr567
      have hown : T567.vm.findClass "com/example/graphweave/graphweave/json/JsonObjectClearPinLaw" = some m.cls := by rw [hSn567.1.alike.findClass]; exact hown
      have hZ : Z.Warmed39 T567.vm := State.Warmed39.trans (t := (s.setVm T355.vm)) hZ hSn567.1
      have X567 : Stand p l e room_1 (s.setVm T567.vm) m #[(.int p0), (.int p1), (.int p2), (.int p3)] below meth c T567 _ _ _ := X567
      obtain ⟨rfl, Nq567, Kq567, q568, q569, q570, q571, q572, q573, q574⟩ := hQ567
      have N567 := Fr.app N355 Nq567
      have K575 := K369.trans Kq567 (allS (Or.inr sz12) (allS (Or.inr sz367) all0))
      have O576 := O370.keep Kq567 (allS g13 (allS g368 all0))
      refine GoW.by st567 ?_
      show GoW _ _ _ _ _ _ _ (T567.setTop (mkF m 86 _ [.null]))
      refine GoW.st (t' := T567.setTop (mkF m 98 #[.val (.int p0), .val (.int p1), .val (.int p2), .val (.int p3), .val (.ref b10), .val (.ref b29), .val (.ref b46), .val (.ref b63), .val (.ref b80), .val (.int 3), .unset, .unset] [.null, (.ref b63), (.ref b10)])) (fun target kt => ?_) ?_
      · refine XS.pop X567.here hx rfl (hb hby at_86) rfl rfl ?_
        refine XS.iload X567.here hx rfl (hb hby at_87) rfl ?_
        refine XS.iconst X567.here hx rfl (hb hby at_89) ?_
        refine XS.icmpNo X567.here hx rfl (hb hby at_90) rfl (flt (by decide : ¬ ((3 : Int32) < (3 : Int32)))).1 ?_
        refine XS.aload X567.here hx rfl (hb hby at_93) rfl rfl ?_
        refine XS.aload X567.here hx rfl (hb hby at_95) rfl rfl ?_
        refine XS.aconstNull X567.here hx rfl (hb hby at_97) ?_
        exact kt
      rcases Classical.em (i66 = i32) with hc577 | hc577
      · skip
        have c578 := (((q69.keep Kq79).keep Kq344).keep Kq355).keep Kq567
        have o579 : b47 < b63 := Nat.lt_of_lt_of_le q55.lt q67
        have o580 : b10 < b63 := Nat.lt_trans o549 o579
        have ne581 : b10 ≠ b63 := Nat.ne_of_lt o580
        have o582 : b63 < b356 := Nat.lt_of_lt_of_le q69.lt (Nat.le_trans (Nat.le_trans Kq79.1 Kq344.1) q358)
        have ne583 : b63 ≠ b356 := Nat.ne_of_lt o582
        have c584 := (((q70.keep Kq79 nin0).keep Kq344 nin0).keep Kq355 (ninS (Ne.symm ne581) nin0)).keep Kq567 (ninS (Ne.symm ne581) (ninS ne583 nin0))
        have c585 := (((q71.keep Kq79 nin0).keep Kq344 nin0).keep Kq355 (ninS (Ne.symm ne581) nin0)).keep Kq567 (ninS (Ne.symm ne581) (ninS ne583 nin0))
        have ne586 : b10 ≠ b64 := Nat.ne_of_lt o563
        have ne587 : b64 ≠ b356 := Nat.ne_of_lt o564
        have c588 := (((q72.keep Kq79 nin0).keep Kq344 nin0).keep Kq355 (ninS (Ne.symm ne586) nin0)).keep Kq567 (ninS (Ne.symm ne586) (ninS ne587 nin0))
        have c589 := c552.keep Kq567
        have o590 : b29 < b47 := Nat.lt_of_lt_of_le q35.lt q51
        have o591 : b29 < b64 := Nat.lt_trans o590 o562
        have o592 : b29 < b356 := Nat.lt_trans o591 o564
        have ne593 : b29 ≠ b356 := Nat.ne_of_lt o592
        have c594 := c555.keep Kq567 (ninS (Ne.symm ne554) (ninS ne593 nin0))
        have c595 := c556.keep Kq567 (ninS (Ne.symm ne554) (ninS ne593 nin0))
        have o596 : b30 < b64 := Nat.lt_trans o548 o562
        have o597 : b30 < b356 := Nat.lt_trans o596 o564
        have ne598 : b30 ≠ b356 := Nat.ne_of_lt o597
        have c599 := c558.keep Kq567 (ninS (Ne.symm ne557) (ninS ne598 nin0))
        have o600 : b29 < b63 := Nat.lt_trans o590 o579
        have ne601 : b29 ≠ b63 := Nat.ne_of_lt o600
        obtain ⟨cq602, kq602, q602a, q602b, q602c⟩ := isOf hZ rfl q568
        obtain ⟨_, _, ⟨T602, L602, k602, n602⟩, -, X602, hSn602, hgr602, ⟨Lc602, hQ602, l602, y602, z602⟩, st602⟩ := X567.virtualBackS hx (y := (⟨sq0, "put", sq4⟩ : MethodName)) (z := (⟨sq0, "put", sq4⟩ : MethodName)) hown (mvT hZ (hw _ tw49)) (mvT hZ (hw _ tw50)) (notFace_of_selects (args := #[]) (mvT hZ (hw _ tw52))) (mvT hZ (hw _ tw52)) (mvT hZ (hw _ tw51)) (by decide) (backOfS (s := (s.setVm T567.vm)) (W := 0) (rm9_eq_2_4_n l Z a0 hw [] b10 b63 (((0 : Int32) + (1 : Int32)) + (1 : Int32)) wcs wm b356 k357 b29 (.ref b345) b46 (.ref b80) b64 k65 i66 b30 k31 i32 T567.heap n0 (Nat.le_trans Z0 K575.1) O576 S_CS hcs M_AO q568 q569 q570 q571 q572 q573 q574 c578 c584 c585 c588 c589 c594 c595 c599 (Ne.symm ne601) g13 g368 q359 ne566 (by first | rfl | assumption | decide | omega : (Value.ref b345).isRef = true) hc577) hZ (hw _ tw53) (hw _ tw2) (by decide) (by decide)) q602a q602c (g := (mkF m 98 #[.val (.int p0), .val (.int p1), .val (.int p2), .val (.int p3), .val (.ref b10), .val (.ref b29), .val (.ref b46), .val (.ref b63), .val (.ref b80), .val (.int 3), .unset, .unset] [.null, (.ref b63), (.ref b10)])) rfl (by rw [hml]; rfl) (Steps.refl _) (argsL := [(.ref b63), .null]) (rest := []) (lenOf pd18 rfl) rfl (by show 2 * 0 + _ ≤ _; exact Nat.le_of_eq rfl) (hb hby at_98) (fun _ _ => ⟨rfl, rfl, (by decide : 14 + 2 ≤ _), (by decide : 67 + 20 ≤ _)⟩)
        dsimp only [Pt.U, Pt.locs, Pt.cells, Pt.slots] at X602 l602 y602 z602 st602 hQ602 hSn602 hgr602
        subst l602 y602 z602
        have hSi := foldS hSi (Nat.le_refl _) hSn602 hgr602
        have hown : T602.vm.findClass "com/example/graphweave/graphweave/json/JsonObjectClearPinLaw" = some m.cls := by rw [hSn602.1.alike.findClass]; exact hown
        have hZ : Z.Warmed39 T602.vm := State.Warmed39.trans (t := (s.setVm T567.vm)) hZ hSn602.1
        have X602 : Stand p l e room_1 (s.setVm T602.vm) m #[(.int p0), (.int p1), (.int p2), (.int p3)] below meth c T602 _ _ _ := X602
        obtain ⟨rfl, Nq602, Kq602, q603⟩ := hQ602
        have N602 := Fr.app N567 Nq602
        have K604 := K575.trans Kq602 (allS (Or.inr sz367) all0)
        have O605 := O576.keep Kq602 (allS g368 all0)
        refine GoW.by st602 ?_
        show GoW _ _ _ _ _ _ _ (T602.setTop (mkF m 101 _ [(.ref b345)]))
        refine GoW.st (t' := T602.setTop (mkF m 104 #[.val (.int p0), .val (.int p1), .val (.int p2), .val (.int p3), .val (.ref b10), .val (.ref b29), .val (.ref b46), .val (.ref b63), .val (.ref b80), .val (.int 3), .unset, .unset] [(.ref b10)])) (fun target kt => ?_) ?_
        · refine XS.pop X602.here hx rfl (hb hby at_101) rfl rfl ?_
          refine XS.aload X602.here hx rfl (hb hby at_102) rfl rfl ?_
          exact kt
        have c606 := q568.keep Kq602
        have c607 := q569.keep Kq602 (ninS ne566 nin0)
        have c608 := q570.keep Kq602 (ninS ne566 nin0)
        have c609 := q571.keep Kq602 (ninS ne566 nin0)
        have c610 := q572.keep Kq602 (ninS ne566 nin0)
        have c611 := q573.keep Kq602
        obtain ⟨cq612, kq612, q612a, q612b, q612c⟩ := isOf hZ rfl c606
        obtain ⟨_, _, ⟨T612, L612, k612, n612⟩, -, X612, ⟨Lc612, hQ612, l612, y612, z612⟩, st612⟩ := X602.virtualBack hx (y := (⟨sq0, "clear", "()V"⟩ : MethodName)) (z := (⟨sq0, "clear", "()V"⟩ : MethodName)) hown (mvT hZ (hw _ tw105)) (mvT hZ (hw _ tw106)) (notFace_of_selects (args := #[]) (mvT hZ (hw _ tw108))) (mvT hZ (hw _ tw108)) (mvT hZ (hw _ tw107)) (by decide) (backOf (W := 0) (rm17_4_2 l Z a0 hw [] b10 b356 k357 (.ref b29) .null (.ref b46) (.ref b80) (((0 : Int32) + (1 : Int32)) + (1 : Int32)) T602.heap n0 (Nat.le_trans Z0 K604.1) O605  c606 c607 c608 c609 c610 c611 q603 g13 g368 ne566) hZ (hw _ tw109) (hw _ tw2) (by decide) (by decide)) q612a q612c (g := (mkF m 104 #[.val (.int p0), .val (.int p1), .val (.int p2), .val (.int p3), .val (.ref b10), .val (.ref b29), .val (.ref b46), .val (.ref b63), .val (.ref b80), .val (.int 3), .unset, .unset] [(.ref b10)])) rfl (by rw [hml]; rfl) (Steps.refl _) (argsL := []) (rest := []) (lenOf pd0 rfl) rfl (by show 2 * 0 + _ ≤ _; exact Nat.le_of_eq rfl) (hb hby at_104) (fun _ _ => ⟨rfl, rfl, (by decide : 16 + 0 ≤ _), (by decide : 87 + 0 ≤ _)⟩)
        dsimp only [Pt.U, Pt.locs, Pt.cells, Pt.slots] at X612 l612 y612 z612 st612 hQ612
        subst l612 y612 z612
        obtain ⟨rfl, Nq612, Kq612, q613, q614, q615, q616, q617, q618, q619⟩ := hQ612
        have N612 := Fr.app N602 Nq612
        have K620 := K604.trans Kq612 (allS (Or.inr sz12) (allS (Or.inr sz367) all0))
        have O621 := O605.keep Kq612 (allS g13 (allS g368 all0))
        refine GoW.by st612 ?_
        show GoW _ _ _ _ _ _ _ (T612.setTop (mkF m 107 _ []))
        refine GoW.st (t' := T612.setTop (mkF m 109 #[.val (.int p0), .val (.int p1), .val (.int p2), .val (.int p3), .val (.ref b10), .val (.ref b29), .val (.ref b46), .val (.ref b63), .val (.ref b80), .val (.int 3), .unset, .unset] [(.ref b10)])) (fun target kt => ?_) ?_
        · refine XS.aload X612.here hx rfl (hb hby at_107) rfl rfl ?_
          exact kt
        obtain ⟨cq622, kq622, q622a, q622b, q622c⟩ := isOf hZ rfl q613
        obtain ⟨_, _, ⟨T622, L622, k622, n622⟩, -, X622, ⟨Lc622, hQ622, l622, y622, z622⟩, st622⟩ := X612.virtualBack hx (y := (⟨sq0, "size", "()I"⟩ : MethodName)) (z := (⟨sq0, "size", "()I"⟩ : MethodName)) hown (mvT hZ (hw _ tw116)) (mvT hZ (hw _ tw117)) (notFace_of_selects (args := #[]) (mvT hZ (hw _ tw119))) (mvT hZ (hw _ tw119)) (mvT hZ (hw _ tw118)) (by decide) (backOf (W := 0) (rm20 l Z a0 hw [] b10 (0 : Int32) T612.heap n0 (Nat.le_trans Z0 K620.1) O621  q616) hZ (hw _ tw120) (hw _ tw2) (by decide) (by decide)) q622a q622c (g := (mkF m 109 #[.val (.int p0), .val (.int p1), .val (.int p2), .val (.int p3), .val (.ref b10), .val (.ref b29), .val (.ref b46), .val (.ref b63), .val (.ref b80), .val (.int 3), .unset, .unset] [(.ref b10)])) rfl (by rw [hml]; rfl) (Steps.refl _) (argsL := []) (rest := []) (lenOf pd16 rfl) rfl (by show 2 * 0 + _ ≤ _; exact Nat.le_of_eq rfl) (hb hby at_109) (fun _ _ => ⟨rfl, rfl, (by decide : 16 + 0 ≤ _), (by decide : 87 + 0 ≤ _)⟩)
        dsimp only [Pt.U, Pt.locs, Pt.cells, Pt.slots] at X622 l622 y622 z622 st622 hQ622
        subst l622 y622 z622
        obtain ⟨rfl, Nq622, eq622⟩ := hQ622
        have N622 := Fr.app N612 Nq622
        refine GoW.by st622 ?_
        show GoW _ _ _ _ _ _ _ (T622.setTop (mkF m 112 _ [(.int 0)]))
        refine GoW.st (t' := T622.setTop (mkF m 119 #[.val (.int p0), .val (.int p1), .val (.int p2), .val (.int p3), .val (.ref b10), .val (.ref b29), .val (.ref b46), .val (.ref b63), .val (.ref b80), .val (.int 3), .unset, .unset] [(.ref b29), (.ref b10)])) (fun target kt => ?_) ?_
        · refine XS.ifNo X622.here hx rfl (hb hby at_112) rfl ((if0 _ _).trans (teq (by decide : (0 : Int32) = (0 : Int32))).2) ?_
          refine XS.aload X622.here hx rfl (hb hby at_115) rfl rfl ?_
          refine XS.aload X622.here hx rfl (hb hby at_117) rfl rfl ?_
          exact kt
        have c623 := (c589.keep Kq602).keep Kq612
        obtain ⟨cq624, kq624, q624a, q624b, q624c⟩ := isOf hZ eq622 q613
        obtain ⟨_, _, ⟨T624, L624, k624, n624⟩, -, X624, ⟨Lc624, hQ624, l624, y624, z624⟩, st624⟩ := X622.virtualBack hx (y := (⟨sq0, "containsKey", "(Ljava/lang/Object;)Z"⟩ : MethodName)) (z := (⟨sq0, "containsKey", "(Ljava/lang/Object;)Z"⟩ : MethodName)) hown (mvT hZ (hw _ tw121)) (mvT hZ (hw _ tw122)) (notFace_of_selects (args := #[]) (mvT hZ (hw _ tw124))) (mvT hZ (hw _ tw124)) (mvT hZ (hw _ tw123)) (by decide) (backOf (W := 0) (rm21_4 l Z a0 hw [] b10 b29 ((((0 : Int32) + (1 : Int32)) + (1 : Int32)) + (1 : Int32)) wcs b356 k357 T612.heap n0 (Nat.le_trans Z0 K620.1) O621 S_CS hcs q613 q614 q615 q616 q617 q618 q619 c623) hZ (hw _ tw125) (hw _ tw2) (by decide) (by decide)) q624a q624c (g := (mkF m 119 #[.val (.int p0), .val (.int p1), .val (.int p2), .val (.int p3), .val (.ref b10), .val (.ref b29), .val (.ref b46), .val (.ref b63), .val (.ref b80), .val (.int 3), .unset, .unset] [(.ref b29), (.ref b10)])) rfl (by rw [hml]; rfl) (Steps.refl _) (argsL := [(.ref b29)]) (rest := []) (lenOf pd6 rfl) rfl (by show 2 * 0 + _ ≤ _; exact Nat.le_of_eq rfl) (hb hby at_119) (fun _ _ => ⟨rfl, eq622, (by decide : 16 + 0 ≤ _), (by decide : 87 + 0 ≤ _)⟩)
        dsimp only [Pt.U, Pt.locs, Pt.cells, Pt.slots] at X624 l624 y624 z624 st624 hQ624
        subst l624 y624 z624
        obtain ⟨rfl, Nq624, eq624⟩ := hQ624
        have N624 := Fr.app N622 Nq624
        refine GoW.by st624 ?_
        show GoW _ _ _ _ _ _ _ (T624.setTop (mkF m 122 _ [(.int 0)]))
        refine GoW.st (t' := T624.setTop (mkF m 129 #[.val (.int p0), .val (.int p1), .val (.int p2), .val (.int p3), .val (.ref b10), .val (.ref b29), .val (.ref b46), .val (.ref b63), .val (.ref b80), .val (.int 3), .unset, .unset] [(.ref b46), (.ref b10)])) (fun target kt => ?_) ?_
        · refine XS.ifNo X624.here hx rfl (hb hby at_122) rfl ((if0 _ _).trans (teq (by decide : (0 : Int32) = (0 : Int32))).2) ?_
          refine XS.aload X624.here hx rfl (hb hby at_125) rfl rfl ?_
          refine XS.aload X624.here hx rfl (hb hby at_127) rfl rfl ?_
          exact kt
        have c625 := ((c541.keep Kq567).keep Kq602).keep Kq612
        obtain ⟨cq626, kq626, q626a, q626b, q626c⟩ := isOf hZ eq624 q613
        obtain ⟨_, _, ⟨T626, L626, k626, n626⟩, -, X626, ⟨Lc626, hQ626, l626, y626, z626⟩, st626⟩ := X624.virtualBack hx (y := (⟨sq0, "get", "(Ljava/lang/Object;)Ljava/lang/Object;"⟩ : MethodName)) (z := (⟨sq0, "get", "(Ljava/lang/Object;)Ljava/lang/Object;"⟩ : MethodName)) hown (mvT hZ (hw _ tw126)) (mvT hZ (hw _ tw127)) (notFace_of_selects (args := #[]) (mvT hZ (hw _ tw129))) (mvT hZ (hw _ tw129)) (mvT hZ (hw _ tw128)) (by decide) (backOf (W := 0) (rm22_none_4 l Z a0 hw [] b10 b46 ((((0 : Int32) + (1 : Int32)) + (1 : Int32)) + (1 : Int32)) wcs b356 k357 T612.heap n0 (Nat.le_trans Z0 K620.1) O621 S_CS hcs q613 q614 q615 q616 q617 q618 q619 c625) hZ (hw _ tw130) (hw _ tw2) (by decide) (by decide)) q626a q626c (g := (mkF m 129 #[.val (.int p0), .val (.int p1), .val (.int p2), .val (.int p3), .val (.ref b10), .val (.ref b29), .val (.ref b46), .val (.ref b63), .val (.ref b80), .val (.int 3), .unset, .unset] [(.ref b46), (.ref b10)])) rfl (by rw [hml]; rfl) (Steps.refl _) (argsL := [(.ref b46)]) (rest := []) (lenOf pd17 rfl) rfl (by show 2 * 0 + _ ≤ _; exact Nat.le_of_eq rfl) (hb hby at_129) (fun _ _ => ⟨rfl, eq624, (by decide : 16 + 0 ≤ _), (by decide : 87 + 0 ≤ _)⟩)
        dsimp only [Pt.U, Pt.locs, Pt.cells, Pt.slots] at X626 l626 y626 z626 st626 hQ626
        subst l626 y626 z626
        obtain ⟨rfl, Nq626, eq626⟩ := hQ626
        have N626 := Fr.app N624 Nq626
        refine GoW.by st626 ?_
        show GoW _ _ _ _ _ _ _ (T626.setTop (mkF m 132 _ [.null]))
        refine GoW.st (t' := T626.setTop (mkF m 148 #[.val (.int p0), .val (.int p1), .val (.int p2), .val (.int p3), .val (.ref b10), .val (.ref b29), .val (.ref b46), .val (.ref b63), .val (.ref b80), .val (.int 3), .val (.int 1), .unset] [(.ref b80), (.ref b46), (.ref b10)])) (fun target kt => ?_) ?_
        · refine XS.ifnonnullNo X626.here hx rfl (hb hby at_132) rfl ?_
          refine XS.iconst X626.here hx rfl (hb hby at_135) ?_
          refine XS.goto X626.here hx rfl (pc0 := 136) (pc' := 140) rfl (hb hby at_136) (by decide) (by decide) ?_
          refine XS.istore X626.here hx rfl (hb hby at_140) rfl (l' := #[.val (.int p0), .val (.int p1), .val (.int p2), .val (.int p3), .val (.ref b10), .val (.ref b29), .val (.ref b46), .val (.ref b63), .val (.ref b80), .val (.int 3), .val (.int 1), .unset]) rfl ?_
          refine XS.aload X626.here hx rfl (hb hby at_142) rfl rfl ?_
          refine XS.aload X626.here hx rfl (hb hby at_144) rfl rfl ?_
          refine XS.aload X626.here hx rfl (hb hby at_146) rfl rfl ?_
          exact kt
        have c627 := ((c559.keep Kq567).keep Kq602).keep Kq612
        obtain ⟨cq628, kq628, q628a, q628b, q628c⟩ := isOf hZ eq626 q613
        obtain ⟨_, _, ⟨T628, L628, k628, n628⟩, -, X628, hSn628, hgr628, ⟨Lc628, hQ628, l628, y628, z628⟩, st628⟩ := X626.virtualBackS hx (y := (⟨sq0, "put", sq4⟩ : MethodName)) (z := (⟨sq0, "put", sq4⟩ : MethodName)) hown (mvT hZ (hw _ tw49)) (mvT hZ (hw _ tw50)) (notFace_of_selects (args := #[]) (mvT hZ (hw _ tw52))) (mvT hZ (hw _ tw52)) (mvT hZ (hw _ tw51)) (by decide) (backOfS (s := (s.setVm T602.vm)) (W := 0) (rm9_none_0_4_R l Z a0 hw [] b10 b46 b80 ((((0 : Int32) + (1 : Int32)) + (1 : Int32)) + (1 : Int32)) wcs wm b356 k357 T612.heap n0 (Nat.le_trans Z0 K620.1) O621 S_CS hcs M_AO q613 q614 q615 q616 q617 q618 q619 c625 g13 g368 q359 ne566 c627) hZ (hw _ tw53) (hw _ tw2) (by decide) (by decide)) q628a q628c (g := (mkF m 148 #[.val (.int p0), .val (.int p1), .val (.int p2), .val (.int p3), .val (.ref b10), .val (.ref b29), .val (.ref b46), .val (.ref b63), .val (.ref b80), .val (.int 3), .val (.int 1), .unset] [(.ref b80), (.ref b46), (.ref b10)])) rfl (by rw [hml]; rfl) (Steps.refl _) (argsL := [(.ref b46), (.ref b80)]) (rest := []) (lenOf pd18 rfl) rfl (by show 2 * 0 + _ ≤ _; exact Nat.le_of_eq rfl) (hb hby at_148) (fun _ _ => ⟨rfl, eq626, (by decide : 16 + 2 ≤ _), (by decide : 87 + 20 ≤ _)⟩)
        dsimp only [Pt.U, Pt.locs, Pt.cells, Pt.slots] at X628 l628 y628 z628 st628 hQ628 hSn628 hgr628
        subst l628 y628 z628
        have hSi := foldS hSi (by rw [eq626]; exact (Nat.le_trans (Nat.le_refl _) Kq612.1)) hSn628 hgr628
        have hown : T628.vm.findClass "com/example/graphweave/graphweave/json/JsonObjectClearPinLaw" = some m.cls := by rw [hSn628.1.alike.findClass]; exact hown
        have hZ : Z.Warmed39 T628.vm := State.Warmed39.trans (t := (s.setVm T602.vm)) hZ hSn628.1
        have X628 : Stand p l e room_1 (s.setVm T628.vm) m #[(.int p0), (.int p1), (.int p2), (.int p3)] below meth c T628 _ _ _ := X628
        obtain ⟨rfl, Nq628, Kq628, q629, q630, q631, q632, q633, q634, q635⟩ := hQ628
        have N628 := Fr.app N626 Nq628
        have K636 := K620.trans Kq628 (allS (Or.inr sz12) (allS (Or.inr sz367) all0))
        have O637 := O621.keep Kq628 (allS g13 (allS g368 all0))
        refine GoW.by st628 ?_
        show GoW _ _ _ _ _ _ _ (T628.setTop (mkF m 151 _ [.null]))
        refine GoW.st (t' := T628.setTop (mkF m 165 #[.val (.int p0), .val (.int p1), .val (.int p2), .val (.int p3), .val (.ref b10), .val (.ref b29), .val (.ref b46), .val (.ref b63), .val (.ref b80), .val (.int 3), .val (.int 1), .val .null] [(.ref b10)])) (fun target kt => ?_) ?_
        · refine XS.astore X628.here hx rfl (hb hby at_151) rfl rfl (l' := #[.val (.int p0), .val (.int p1), .val (.int p2), .val (.int p3), .val (.ref b10), .val (.ref b29), .val (.ref b46), .val (.ref b63), .val (.ref b80), .val (.int 3), .val (.int 1), .val .null]) rfl ?_
          refine XS.iload X628.here hx rfl (hb hby at_153) rfl ?_
          refine XS.ifNo X628.here hx rfl (hb hby at_155) rfl ((if0 _ _).trans (feq (by decide : ¬ ((1 : Int32) = (0 : Int32)))).1) ?_
          refine XS.aload X628.here hx rfl (hb hby at_158) rfl rfl ?_
          refine XS.ifnonnullNo X628.here hx rfl (hb hby at_160) rfl ?_
          refine XS.aload X628.here hx rfl (hb hby at_163) rfl rfl ?_
          exact kt
        obtain ⟨cq638, kq638, q638a, q638b, q638c⟩ := isOf hZ rfl q629
        obtain ⟨_, _, ⟨T638, L638, k638, n638⟩, -, X638, ⟨Lc638, hQ638, l638, y638, z638⟩, st638⟩ := X628.virtualBack hx (y := (⟨sq0, "size", "()I"⟩ : MethodName)) (z := (⟨sq0, "size", "()I"⟩ : MethodName)) hown (mvT hZ (hw _ tw116)) (mvT hZ (hw _ tw117)) (notFace_of_selects (args := #[]) (mvT hZ (hw _ tw119))) (mvT hZ (hw _ tw119)) (mvT hZ (hw _ tw118)) (by decide) (backOf (W := 0) (rm20 l Z a0 hw [] b10 (1 : Int32) T628.heap n0 (Nat.le_trans Z0 K636.1) O637  q632) hZ (hw _ tw120) (hw _ tw2) (by decide) (by decide)) q638a q638c (g := (mkF m 165 #[.val (.int p0), .val (.int p1), .val (.int p2), .val (.int p3), .val (.ref b10), .val (.ref b29), .val (.ref b46), .val (.ref b63), .val (.ref b80), .val (.int 3), .val (.int 1), .val .null] [(.ref b10)])) rfl (by rw [hml]; rfl) (Steps.refl _) (argsL := []) (rest := []) (lenOf pd16 rfl) rfl (by show 2 * 0 + _ ≤ _; exact Nat.le_of_eq rfl) (hb hby at_165) (fun _ _ => ⟨rfl, rfl, (by decide : 18 + 0 ≤ _), (by decide : 107 + 0 ≤ _)⟩)
        dsimp only [Pt.U, Pt.locs, Pt.cells, Pt.slots] at X638 l638 y638 z638 st638 hQ638
        subst l638 y638 z638
        obtain ⟨rfl, Nq638, eq638⟩ := hQ638
        have N638 := Fr.app N628 Nq638
        refine GoW.by st638 ?_
        show GoW _ _ _ _ _ _ _ (T638.setTop (mkF m 168 _ [(.int 1)]))
        refine GoW.st (t' := T638.setTop (mkF m 176 #[.val (.int p0), .val (.int p1), .val (.int p2), .val (.int p3), .val (.ref b10), .val (.ref b29), .val (.ref b46), .val (.ref b63), .val (.ref b80), .val (.int 3), .val (.int 1), .val .null] [(.ref b46), (.ref b10)])) (fun target kt => ?_) ?_
        · refine XS.iconst X638.here hx rfl (hb hby at_168) ?_
          refine XS.icmpNo X638.here hx rfl (hb hby at_169) rfl (teq (by decide : (1 : Int32) = (1 : Int32))).2 ?_
          refine XS.aload X638.here hx rfl (hb hby at_172) rfl rfl ?_
          refine XS.aload X638.here hx rfl (hb hby at_174) rfl rfl ?_
          exact kt
        have c639 := c625.keep Kq628
        obtain ⟨cq640, kq640, q640a, q640b, q640c⟩ := isOf hZ eq638 q629
        obtain ⟨_, _, ⟨T640, L640, k640, n640⟩, -, X640, ⟨Lc640, hQ640, l640, y640, z640⟩, st640⟩ := X638.virtualBack hx (y := (⟨sq0, "get", "(Ljava/lang/Object;)Ljava/lang/Object;"⟩ : MethodName)) (z := (⟨sq0, "get", "(Ljava/lang/Object;)Ljava/lang/Object;"⟩ : MethodName)) hown (mvT hZ (hw _ tw126)) (mvT hZ (hw _ tw127)) (notFace_of_selects (args := #[]) (mvT hZ (hw _ tw129))) (mvT hZ (hw _ tw129)) (mvT hZ (hw _ tw128)) (by decide) (backOf (W := 0) (rm22_same_4 l Z a0 hw [] b10 b46 (((((0 : Int32) + (1 : Int32)) + (1 : Int32)) + (1 : Int32)) + (1 : Int32)) wcs b356 k357 b80 T628.heap n0 (Nat.le_trans Z0 K636.1) O637 S_CS hcs q629 q630 q631 q632 q633 q634 q635 c639) hZ (hw _ tw130) (hw _ tw2) (by decide) (by decide)) q640a q640c (g := (mkF m 176 #[.val (.int p0), .val (.int p1), .val (.int p2), .val (.int p3), .val (.ref b10), .val (.ref b29), .val (.ref b46), .val (.ref b63), .val (.ref b80), .val (.int 3), .val (.int 1), .val .null] [(.ref b46), (.ref b10)])) rfl (by rw [hml]; rfl) (Steps.refl _) (argsL := [(.ref b46)]) (rest := []) (lenOf pd17 rfl) rfl (by show 2 * 0 + _ ≤ _; exact Nat.le_of_eq rfl) (hb hby at_176) (fun _ _ => ⟨rfl, eq638, (by decide : 18 + 0 ≤ _), (by decide : 107 + 0 ≤ _)⟩)
        dsimp only [Pt.U, Pt.locs, Pt.cells, Pt.slots] at X640 l640 y640 z640 st640 hQ640
        subst l640 y640 z640
        obtain ⟨rfl, Nq640, eq640⟩ := hQ640
        have N640 := Fr.app N638 Nq640
        refine GoW.by st640 ?_
        show GoW _ _ _ _ _ _ _ (T640.setTop (mkF m 179 _ [(.ref b80)]))
        refine GoW.st (t' := T640.setTop (mkF m 189 #[.val (.int p0), .val (.int p1), .val (.int p2), .val (.int p3), .val (.ref b10), .val (.ref b29), .val (.ref b46), .val (.ref b63), .val (.ref b80), .val (.int 3), .val (.int 1), .val .null] [(.int 1)])) (fun target kt => ?_) ?_
        · refine XS.aload X640.here hx rfl (hb hby at_179) rfl rfl ?_
          refine Jvm.RoadKit.acmp (g := (mkF m 181 #[.val (.int p0), .val (.int p1), .val (.int p2), .val (.int p3), .val (.ref b10), .val (.ref b29), .val (.ref b46), .val (.ref b63), .val (.ref b80), .val (.int 3), .val (.int 1), .val .null] [(.ref b80), (.ref b80)])) X640 hx rfl rfl rfl (pc0 := 181) (pc' := 184) (same := true) rfl (hb hby at_181) rfl (decide_eq_true rfl) (by decide) (by decide) ?_
          refine XS.iconst X640.here hx rfl (hb hby at_184) ?_
          refine XS.goto X640.here hx rfl (pc0 := 185) (pc' := 189) rfl (hb hby at_185) (by decide) (by decide) ?_
          exact kt
        refine GoW.ret X640 hSi (by rw [eq640]; exact (Nat.le_refl _)) (v := some (.int 1)) (fun h => by rw [hret] at h; cases h) hlk (fun fs hr => retN X640 hx (t := .boolean) hret (by simp) (hb hby at_189) hr) ?_ (by decide) (by decide)
        show Q0 Z p0 p1 p2 p3 wn kn wm wcs wc clc h0 n0 _ T640.heap _
        rw [eq640]
        exact ⟨rfl, N640, K636⟩
      · skip
        rcases Classical.em (i66 = i49) with hc641 | hc641
        · skip
          have c642 := (((q69.keep Kq79).keep Kq344).keep Kq355).keep Kq567
          have o643 : b47 < b63 := Nat.lt_of_lt_of_le q55.lt q67
          have o644 : b10 < b63 := Nat.lt_trans o549 o643
          have ne645 : b10 ≠ b63 := Nat.ne_of_lt o644
          have o646 : b63 < b356 := Nat.lt_of_lt_of_le q69.lt (Nat.le_trans (Nat.le_trans Kq79.1 Kq344.1) q358)
          have ne647 : b63 ≠ b356 := Nat.ne_of_lt o646
          have c648 := (((q70.keep Kq79 nin0).keep Kq344 nin0).keep Kq355 (ninS (Ne.symm ne645) nin0)).keep Kq567 (ninS (Ne.symm ne645) (ninS ne647 nin0))
          have c649 := (((q71.keep Kq79 nin0).keep Kq344 nin0).keep Kq355 (ninS (Ne.symm ne645) nin0)).keep Kq567 (ninS (Ne.symm ne645) (ninS ne647 nin0))
          have ne650 : b10 ≠ b64 := Nat.ne_of_lt o563
          have ne651 : b64 ≠ b356 := Nat.ne_of_lt o564
          have c652 := (((q72.keep Kq79 nin0).keep Kq344 nin0).keep Kq355 (ninS (Ne.symm ne650) nin0)).keep Kq567 (ninS (Ne.symm ne650) (ninS ne651 nin0))
          have c653 := c552.keep Kq567
          have o654 : b29 < b47 := Nat.lt_of_lt_of_le q35.lt q51
          have o655 : b29 < b64 := Nat.lt_trans o654 o562
          have o656 : b29 < b356 := Nat.lt_trans o655 o564
          have ne657 : b29 ≠ b356 := Nat.ne_of_lt o656
          have c658 := c555.keep Kq567 (ninS (Ne.symm ne554) (ninS ne657 nin0))
          have c659 := c556.keep Kq567 (ninS (Ne.symm ne554) (ninS ne657 nin0))
          have o660 : b30 < b64 := Nat.lt_trans o548 o562
          have o661 : b30 < b356 := Nat.lt_trans o660 o564
          have ne662 : b30 ≠ b356 := Nat.ne_of_lt o661
          have c663 := c558.keep Kq567 (ninS (Ne.symm ne557) (ninS ne662 nin0))
          have c664 := c541.keep Kq567
          have o665 : b46 < b64 := Nat.lt_of_lt_of_le q52.lt q68
          have o666 : b46 < b356 := Nat.lt_trans o665 o564
          have ne667 : b46 ≠ b356 := Nat.ne_of_lt o666
          have c668 := c546.keep Kq567 (ninS (Ne.symm ne545) (ninS ne667 nin0))
          have c669 := c547.keep Kq567 (ninS (Ne.symm ne545) (ninS ne667 nin0))
          have o670 : b47 < b356 := Nat.lt_trans o562 o564
          have ne671 : b47 ≠ b356 := Nat.ne_of_lt o670
          have c672 := c551.keep Kq567 (ninS (Ne.symm ne550) (ninS ne671 nin0))
          have o673 : b29 < b63 := Nat.lt_trans o654 o643
          have ne674 : b29 ≠ b63 := Nat.ne_of_lt o673
          have o675 : b46 < b63 := Nat.lt_of_lt_of_le q52.lt q67
          have ne676 : b46 ≠ b63 := Nat.ne_of_lt o675
          obtain ⟨cq677, kq677, q677a, q677b, q677c⟩ := isOf hZ rfl q568
          obtain ⟨_, _, ⟨T677, L677, k677, n677⟩, -, X677, hSn677, hgr677, ⟨Lc677, hQ677, l677, y677, z677⟩, st677⟩ := X567.virtualBackS hx (y := (⟨sq0, "put", sq4⟩ : MethodName)) (z := (⟨sq0, "put", sq4⟩ : MethodName)) hown (mvT hZ (hw _ tw49)) (mvT hZ (hw _ tw50)) (notFace_of_selects (args := #[]) (mvT hZ (hw _ tw52))) (mvT hZ (hw _ tw52)) (mvT hZ (hw _ tw51)) (by decide) (backOfS (s := (s.setVm T567.vm)) (W := 0) (rm9_ne_eq_2_4_n l Z a0 hw [] b10 b63 (((0 : Int32) + (1 : Int32)) + (1 : Int32)) wcs wm b356 k357 b29 (.ref b345) b46 (.ref b80) b64 k65 i66 b30 k31 i32 b47 k48 i49 T567.heap n0 (Nat.le_trans Z0 K575.1) O576 S_CS hcs M_AO q568 q569 q570 q571 q572 q573 q574 c642 c648 c649 c652 c653 c658 c659 c663 (Ne.symm ne674) c664 c668 c669 c672 (Ne.symm ne676) g13 g368 q359 ne566 (by first | rfl | assumption | decide | omega : (Value.ref b80).isRef = true) hc577 hc641) hZ (hw _ tw53) (hw _ tw2) (by decide) (by decide)) q677a q677c (g := (mkF m 98 #[.val (.int p0), .val (.int p1), .val (.int p2), .val (.int p3), .val (.ref b10), .val (.ref b29), .val (.ref b46), .val (.ref b63), .val (.ref b80), .val (.int 3), .unset, .unset] [.null, (.ref b63), (.ref b10)])) rfl (by rw [hml]; rfl) (Steps.refl _) (argsL := [(.ref b63), .null]) (rest := []) (lenOf pd18 rfl) rfl (by show 2 * 0 + _ ≤ _; exact Nat.le_of_eq rfl) (hb hby at_98) (fun _ _ => ⟨rfl, rfl, (by decide : 14 + 2 ≤ _), (by decide : 67 + 20 ≤ _)⟩)
          dsimp only [Pt.U, Pt.locs, Pt.cells, Pt.slots] at X677 l677 y677 z677 st677 hQ677 hSn677 hgr677
          subst l677 y677 z677
          have hSi := foldS hSi (Nat.le_refl _) hSn677 hgr677
          have hown : T677.vm.findClass "com/example/graphweave/graphweave/json/JsonObjectClearPinLaw" = some m.cls := by rw [hSn677.1.alike.findClass]; exact hown
          have hZ : Z.Warmed39 T677.vm := State.Warmed39.trans (t := (s.setVm T567.vm)) hZ hSn677.1
          have X677 : Stand p l e room_1 (s.setVm T677.vm) m #[(.int p0), (.int p1), (.int p2), (.int p3)] below meth c T677 _ _ _ := X677
          obtain ⟨rfl, Nq677, Kq677, q678⟩ := hQ677
          have N677 := Fr.app N567 Nq677
          have K679 := K575.trans Kq677 (allS (Or.inr sz367) all0)
          have O680 := O576.keep Kq677 (allS g368 all0)
          refine GoW.by st677 ?_
          show GoW _ _ _ _ _ _ _ (T677.setTop (mkF m 101 _ [(.ref b80)]))
          refine GoW.st (t' := T677.setTop (mkF m 104 #[.val (.int p0), .val (.int p1), .val (.int p2), .val (.int p3), .val (.ref b10), .val (.ref b29), .val (.ref b46), .val (.ref b63), .val (.ref b80), .val (.int 3), .unset, .unset] [(.ref b10)])) (fun target kt => ?_) ?_
          · refine XS.pop X677.here hx rfl (hb hby at_101) rfl rfl ?_
            refine XS.aload X677.here hx rfl (hb hby at_102) rfl rfl ?_
            exact kt
          have c681 := q568.keep Kq677
          have c682 := q569.keep Kq677 (ninS ne566 nin0)
          have c683 := q570.keep Kq677 (ninS ne566 nin0)
          have c684 := q571.keep Kq677 (ninS ne566 nin0)
          have c685 := q572.keep Kq677 (ninS ne566 nin0)
          have c686 := q573.keep Kq677
          obtain ⟨cq687, kq687, q687a, q687b, q687c⟩ := isOf hZ rfl c681
          obtain ⟨_, _, ⟨T687, L687, k687, n687⟩, -, X687, ⟨Lc687, hQ687, l687, y687, z687⟩, st687⟩ := X677.virtualBack hx (y := (⟨sq0, "clear", "()V"⟩ : MethodName)) (z := (⟨sq0, "clear", "()V"⟩ : MethodName)) hown (mvT hZ (hw _ tw105)) (mvT hZ (hw _ tw106)) (notFace_of_selects (args := #[]) (mvT hZ (hw _ tw108))) (mvT hZ (hw _ tw108)) (mvT hZ (hw _ tw107)) (by decide) (backOf (W := 0) (rm17_4_2 l Z a0 hw [] b10 b356 k357 (.ref b29) (.ref b345) (.ref b46) .null (((0 : Int32) + (1 : Int32)) + (1 : Int32)) T677.heap n0 (Nat.le_trans Z0 K679.1) O680  c681 c682 c683 c684 c685 c686 q678 g13 g368 ne566) hZ (hw _ tw109) (hw _ tw2) (by decide) (by decide)) q687a q687c (g := (mkF m 104 #[.val (.int p0), .val (.int p1), .val (.int p2), .val (.int p3), .val (.ref b10), .val (.ref b29), .val (.ref b46), .val (.ref b63), .val (.ref b80), .val (.int 3), .unset, .unset] [(.ref b10)])) rfl (by rw [hml]; rfl) (Steps.refl _) (argsL := []) (rest := []) (lenOf pd0 rfl) rfl (by show 2 * 0 + _ ≤ _; exact Nat.le_of_eq rfl) (hb hby at_104) (fun _ _ => ⟨rfl, rfl, (by decide : 16 + 0 ≤ _), (by decide : 87 + 0 ≤ _)⟩)
          dsimp only [Pt.U, Pt.locs, Pt.cells, Pt.slots] at X687 l687 y687 z687 st687 hQ687
          subst l687 y687 z687
          obtain ⟨rfl, Nq687, Kq687, q688, q689, q690, q691, q692, q693, q694⟩ := hQ687
          have N687 := Fr.app N677 Nq687
          have K695 := K679.trans Kq687 (allS (Or.inr sz12) (allS (Or.inr sz367) all0))
          have O696 := O680.keep Kq687 (allS g13 (allS g368 all0))
          refine GoW.by st687 ?_
          show GoW _ _ _ _ _ _ _ (T687.setTop (mkF m 107 _ []))
          refine GoW.st (t' := T687.setTop (mkF m 109 #[.val (.int p0), .val (.int p1), .val (.int p2), .val (.int p3), .val (.ref b10), .val (.ref b29), .val (.ref b46), .val (.ref b63), .val (.ref b80), .val (.int 3), .unset, .unset] [(.ref b10)])) (fun target kt => ?_) ?_
          · refine XS.aload X687.here hx rfl (hb hby at_107) rfl rfl ?_
            exact kt
          obtain ⟨cq697, kq697, q697a, q697b, q697c⟩ := isOf hZ rfl q688
          obtain ⟨_, _, ⟨T697, L697, k697, n697⟩, -, X697, ⟨Lc697, hQ697, l697, y697, z697⟩, st697⟩ := X687.virtualBack hx (y := (⟨sq0, "size", "()I"⟩ : MethodName)) (z := (⟨sq0, "size", "()I"⟩ : MethodName)) hown (mvT hZ (hw _ tw116)) (mvT hZ (hw _ tw117)) (notFace_of_selects (args := #[]) (mvT hZ (hw _ tw119))) (mvT hZ (hw _ tw119)) (mvT hZ (hw _ tw118)) (by decide) (backOf (W := 0) (rm20 l Z a0 hw [] b10 (0 : Int32) T687.heap n0 (Nat.le_trans Z0 K695.1) O696  q691) hZ (hw _ tw120) (hw _ tw2) (by decide) (by decide)) q697a q697c (g := (mkF m 109 #[.val (.int p0), .val (.int p1), .val (.int p2), .val (.int p3), .val (.ref b10), .val (.ref b29), .val (.ref b46), .val (.ref b63), .val (.ref b80), .val (.int 3), .unset, .unset] [(.ref b10)])) rfl (by rw [hml]; rfl) (Steps.refl _) (argsL := []) (rest := []) (lenOf pd16 rfl) rfl (by show 2 * 0 + _ ≤ _; exact Nat.le_of_eq rfl) (hb hby at_109) (fun _ _ => ⟨rfl, rfl, (by decide : 16 + 0 ≤ _), (by decide : 87 + 0 ≤ _)⟩)
          dsimp only [Pt.U, Pt.locs, Pt.cells, Pt.slots] at X697 l697 y697 z697 st697 hQ697
          subst l697 y697 z697
          obtain ⟨rfl, Nq697, eq697⟩ := hQ697
          have N697 := Fr.app N687 Nq697
          refine GoW.by st697 ?_
          show GoW _ _ _ _ _ _ _ (T697.setTop (mkF m 112 _ [(.int 0)]))
          refine GoW.st (t' := T697.setTop (mkF m 119 #[.val (.int p0), .val (.int p1), .val (.int p2), .val (.int p3), .val (.ref b10), .val (.ref b29), .val (.ref b46), .val (.ref b63), .val (.ref b80), .val (.int 3), .unset, .unset] [(.ref b29), (.ref b10)])) (fun target kt => ?_) ?_
          · refine XS.ifNo X697.here hx rfl (hb hby at_112) rfl ((if0 _ _).trans (teq (by decide : (0 : Int32) = (0 : Int32))).2) ?_
            refine XS.aload X697.here hx rfl (hb hby at_115) rfl rfl ?_
            refine XS.aload X697.here hx rfl (hb hby at_117) rfl rfl ?_
            exact kt
          have c698 := (c653.keep Kq677).keep Kq687
          obtain ⟨cq699, kq699, q699a, q699b, q699c⟩ := isOf hZ eq697 q688
          obtain ⟨_, _, ⟨T699, L699, k699, n699⟩, -, X699, ⟨Lc699, hQ699, l699, y699, z699⟩, st699⟩ := X697.virtualBack hx (y := (⟨sq0, "containsKey", "(Ljava/lang/Object;)Z"⟩ : MethodName)) (z := (⟨sq0, "containsKey", "(Ljava/lang/Object;)Z"⟩ : MethodName)) hown (mvT hZ (hw _ tw121)) (mvT hZ (hw _ tw122)) (notFace_of_selects (args := #[]) (mvT hZ (hw _ tw124))) (mvT hZ (hw _ tw124)) (mvT hZ (hw _ tw123)) (by decide) (backOf (W := 0) (rm21_4 l Z a0 hw [] b10 b29 ((((0 : Int32) + (1 : Int32)) + (1 : Int32)) + (1 : Int32)) wcs b356 k357 T687.heap n0 (Nat.le_trans Z0 K695.1) O696 S_CS hcs q688 q689 q690 q691 q692 q693 q694 c698) hZ (hw _ tw125) (hw _ tw2) (by decide) (by decide)) q699a q699c (g := (mkF m 119 #[.val (.int p0), .val (.int p1), .val (.int p2), .val (.int p3), .val (.ref b10), .val (.ref b29), .val (.ref b46), .val (.ref b63), .val (.ref b80), .val (.int 3), .unset, .unset] [(.ref b29), (.ref b10)])) rfl (by rw [hml]; rfl) (Steps.refl _) (argsL := [(.ref b29)]) (rest := []) (lenOf pd6 rfl) rfl (by show 2 * 0 + _ ≤ _; exact Nat.le_of_eq rfl) (hb hby at_119) (fun _ _ => ⟨rfl, eq697, (by decide : 16 + 0 ≤ _), (by decide : 87 + 0 ≤ _)⟩)
          dsimp only [Pt.U, Pt.locs, Pt.cells, Pt.slots] at X699 l699 y699 z699 st699 hQ699
          subst l699 y699 z699
          obtain ⟨rfl, Nq699, eq699⟩ := hQ699
          have N699 := Fr.app N697 Nq699
          refine GoW.by st699 ?_
          show GoW _ _ _ _ _ _ _ (T699.setTop (mkF m 122 _ [(.int 0)]))
          refine GoW.st (t' := T699.setTop (mkF m 129 #[.val (.int p0), .val (.int p1), .val (.int p2), .val (.int p3), .val (.ref b10), .val (.ref b29), .val (.ref b46), .val (.ref b63), .val (.ref b80), .val (.int 3), .unset, .unset] [(.ref b46), (.ref b10)])) (fun target kt => ?_) ?_
          · refine XS.ifNo X699.here hx rfl (hb hby at_122) rfl ((if0 _ _).trans (teq (by decide : (0 : Int32) = (0 : Int32))).2) ?_
            refine XS.aload X699.here hx rfl (hb hby at_125) rfl rfl ?_
            refine XS.aload X699.here hx rfl (hb hby at_127) rfl rfl ?_
            exact kt
          have c700 := (c664.keep Kq677).keep Kq687
          obtain ⟨cq701, kq701, q701a, q701b, q701c⟩ := isOf hZ eq699 q688
          obtain ⟨_, _, ⟨T701, L701, k701, n701⟩, -, X701, ⟨Lc701, hQ701, l701, y701, z701⟩, st701⟩ := X699.virtualBack hx (y := (⟨sq0, "get", "(Ljava/lang/Object;)Ljava/lang/Object;"⟩ : MethodName)) (z := (⟨sq0, "get", "(Ljava/lang/Object;)Ljava/lang/Object;"⟩ : MethodName)) hown (mvT hZ (hw _ tw126)) (mvT hZ (hw _ tw127)) (notFace_of_selects (args := #[]) (mvT hZ (hw _ tw129))) (mvT hZ (hw _ tw129)) (mvT hZ (hw _ tw128)) (by decide) (backOf (W := 0) (rm22_none_4 l Z a0 hw [] b10 b46 ((((0 : Int32) + (1 : Int32)) + (1 : Int32)) + (1 : Int32)) wcs b356 k357 T687.heap n0 (Nat.le_trans Z0 K695.1) O696 S_CS hcs q688 q689 q690 q691 q692 q693 q694 c700) hZ (hw _ tw130) (hw _ tw2) (by decide) (by decide)) q701a q701c (g := (mkF m 129 #[.val (.int p0), .val (.int p1), .val (.int p2), .val (.int p3), .val (.ref b10), .val (.ref b29), .val (.ref b46), .val (.ref b63), .val (.ref b80), .val (.int 3), .unset, .unset] [(.ref b46), (.ref b10)])) rfl (by rw [hml]; rfl) (Steps.refl _) (argsL := [(.ref b46)]) (rest := []) (lenOf pd17 rfl) rfl (by show 2 * 0 + _ ≤ _; exact Nat.le_of_eq rfl) (hb hby at_129) (fun _ _ => ⟨rfl, eq699, (by decide : 16 + 0 ≤ _), (by decide : 87 + 0 ≤ _)⟩)
          dsimp only [Pt.U, Pt.locs, Pt.cells, Pt.slots] at X701 l701 y701 z701 st701 hQ701
          subst l701 y701 z701
          obtain ⟨rfl, Nq701, eq701⟩ := hQ701
          have N701 := Fr.app N699 Nq701
          refine GoW.by st701 ?_
          show GoW _ _ _ _ _ _ _ (T701.setTop (mkF m 132 _ [.null]))
          refine GoW.st (t' := T701.setTop (mkF m 148 #[.val (.int p0), .val (.int p1), .val (.int p2), .val (.int p3), .val (.ref b10), .val (.ref b29), .val (.ref b46), .val (.ref b63), .val (.ref b80), .val (.int 3), .val (.int 1), .unset] [(.ref b80), (.ref b46), (.ref b10)])) (fun target kt => ?_) ?_
          · refine XS.ifnonnullNo X701.here hx rfl (hb hby at_132) rfl ?_
            refine XS.iconst X701.here hx rfl (hb hby at_135) ?_
            refine XS.goto X701.here hx rfl (pc0 := 136) (pc' := 140) rfl (hb hby at_136) (by decide) (by decide) ?_
            refine XS.istore X701.here hx rfl (hb hby at_140) rfl (l' := #[.val (.int p0), .val (.int p1), .val (.int p2), .val (.int p3), .val (.ref b10), .val (.ref b29), .val (.ref b46), .val (.ref b63), .val (.ref b80), .val (.int 3), .val (.int 1), .unset]) rfl ?_
            refine XS.aload X701.here hx rfl (hb hby at_142) rfl rfl ?_
            refine XS.aload X701.here hx rfl (hb hby at_144) rfl rfl ?_
            refine XS.aload X701.here hx rfl (hb hby at_146) rfl rfl ?_
            exact kt
          have c702 := ((c559.keep Kq567).keep Kq677).keep Kq687
          obtain ⟨cq703, kq703, q703a, q703b, q703c⟩ := isOf hZ eq701 q688
          obtain ⟨_, _, ⟨T703, L703, k703, n703⟩, -, X703, hSn703, hgr703, ⟨Lc703, hQ703, l703, y703, z703⟩, st703⟩ := X701.virtualBackS hx (y := (⟨sq0, "put", sq4⟩ : MethodName)) (z := (⟨sq0, "put", sq4⟩ : MethodName)) hown (mvT hZ (hw _ tw49)) (mvT hZ (hw _ tw50)) (notFace_of_selects (args := #[]) (mvT hZ (hw _ tw52))) (mvT hZ (hw _ tw52)) (mvT hZ (hw _ tw51)) (by decide) (backOfS (s := (s.setVm T677.vm)) (W := 0) (rm9_none_0_4_R l Z a0 hw [] b10 b46 b80 ((((0 : Int32) + (1 : Int32)) + (1 : Int32)) + (1 : Int32)) wcs wm b356 k357 T687.heap n0 (Nat.le_trans Z0 K695.1) O696 S_CS hcs M_AO q688 q689 q690 q691 q692 q693 q694 c700 g13 g368 q359 ne566 c702) hZ (hw _ tw53) (hw _ tw2) (by decide) (by decide)) q703a q703c (g := (mkF m 148 #[.val (.int p0), .val (.int p1), .val (.int p2), .val (.int p3), .val (.ref b10), .val (.ref b29), .val (.ref b46), .val (.ref b63), .val (.ref b80), .val (.int 3), .val (.int 1), .unset] [(.ref b80), (.ref b46), (.ref b10)])) rfl (by rw [hml]; rfl) (Steps.refl _) (argsL := [(.ref b46), (.ref b80)]) (rest := []) (lenOf pd18 rfl) rfl (by show 2 * 0 + _ ≤ _; exact Nat.le_of_eq rfl) (hb hby at_148) (fun _ _ => ⟨rfl, eq701, (by decide : 16 + 2 ≤ _), (by decide : 87 + 20 ≤ _)⟩)
          dsimp only [Pt.U, Pt.locs, Pt.cells, Pt.slots] at X703 l703 y703 z703 st703 hQ703 hSn703 hgr703
          subst l703 y703 z703
          have hSi := foldS hSi (by rw [eq701]; exact (Nat.le_trans (Nat.le_refl _) Kq687.1)) hSn703 hgr703
          have hown : T703.vm.findClass "com/example/graphweave/graphweave/json/JsonObjectClearPinLaw" = some m.cls := by rw [hSn703.1.alike.findClass]; exact hown
          have hZ : Z.Warmed39 T703.vm := State.Warmed39.trans (t := (s.setVm T677.vm)) hZ hSn703.1
          have X703 : Stand p l e room_1 (s.setVm T703.vm) m #[(.int p0), (.int p1), (.int p2), (.int p3)] below meth c T703 _ _ _ := X703
          obtain ⟨rfl, Nq703, Kq703, q704, q705, q706, q707, q708, q709, q710⟩ := hQ703
          have N703 := Fr.app N701 Nq703
          have K711 := K695.trans Kq703 (allS (Or.inr sz12) (allS (Or.inr sz367) all0))
          have O712 := O696.keep Kq703 (allS g13 (allS g368 all0))
          refine GoW.by st703 ?_
          show GoW _ _ _ _ _ _ _ (T703.setTop (mkF m 151 _ [.null]))
          refine GoW.st (t' := T703.setTop (mkF m 165 #[.val (.int p0), .val (.int p1), .val (.int p2), .val (.int p3), .val (.ref b10), .val (.ref b29), .val (.ref b46), .val (.ref b63), .val (.ref b80), .val (.int 3), .val (.int 1), .val .null] [(.ref b10)])) (fun target kt => ?_) ?_
          · refine XS.astore X703.here hx rfl (hb hby at_151) rfl rfl (l' := #[.val (.int p0), .val (.int p1), .val (.int p2), .val (.int p3), .val (.ref b10), .val (.ref b29), .val (.ref b46), .val (.ref b63), .val (.ref b80), .val (.int 3), .val (.int 1), .val .null]) rfl ?_
            refine XS.iload X703.here hx rfl (hb hby at_153) rfl ?_
            refine XS.ifNo X703.here hx rfl (hb hby at_155) rfl ((if0 _ _).trans (feq (by decide : ¬ ((1 : Int32) = (0 : Int32)))).1) ?_
            refine XS.aload X703.here hx rfl (hb hby at_158) rfl rfl ?_
            refine XS.ifnonnullNo X703.here hx rfl (hb hby at_160) rfl ?_
            refine XS.aload X703.here hx rfl (hb hby at_163) rfl rfl ?_
            exact kt
          obtain ⟨cq713, kq713, q713a, q713b, q713c⟩ := isOf hZ rfl q704
          obtain ⟨_, _, ⟨T713, L713, k713, n713⟩, -, X713, ⟨Lc713, hQ713, l713, y713, z713⟩, st713⟩ := X703.virtualBack hx (y := (⟨sq0, "size", "()I"⟩ : MethodName)) (z := (⟨sq0, "size", "()I"⟩ : MethodName)) hown (mvT hZ (hw _ tw116)) (mvT hZ (hw _ tw117)) (notFace_of_selects (args := #[]) (mvT hZ (hw _ tw119))) (mvT hZ (hw _ tw119)) (mvT hZ (hw _ tw118)) (by decide) (backOf (W := 0) (rm20 l Z a0 hw [] b10 (1 : Int32) T703.heap n0 (Nat.le_trans Z0 K711.1) O712  q707) hZ (hw _ tw120) (hw _ tw2) (by decide) (by decide)) q713a q713c (g := (mkF m 165 #[.val (.int p0), .val (.int p1), .val (.int p2), .val (.int p3), .val (.ref b10), .val (.ref b29), .val (.ref b46), .val (.ref b63), .val (.ref b80), .val (.int 3), .val (.int 1), .val .null] [(.ref b10)])) rfl (by rw [hml]; rfl) (Steps.refl _) (argsL := []) (rest := []) (lenOf pd16 rfl) rfl (by show 2 * 0 + _ ≤ _; exact Nat.le_of_eq rfl) (hb hby at_165) (fun _ _ => ⟨rfl, rfl, (by decide : 18 + 0 ≤ _), (by decide : 107 + 0 ≤ _)⟩)
          dsimp only [Pt.U, Pt.locs, Pt.cells, Pt.slots] at X713 l713 y713 z713 st713 hQ713
          subst l713 y713 z713
          obtain ⟨rfl, Nq713, eq713⟩ := hQ713
          have N713 := Fr.app N703 Nq713
          refine GoW.by st713 ?_
          show GoW _ _ _ _ _ _ _ (T713.setTop (mkF m 168 _ [(.int 1)]))
          refine GoW.st (t' := T713.setTop (mkF m 176 #[.val (.int p0), .val (.int p1), .val (.int p2), .val (.int p3), .val (.ref b10), .val (.ref b29), .val (.ref b46), .val (.ref b63), .val (.ref b80), .val (.int 3), .val (.int 1), .val .null] [(.ref b46), (.ref b10)])) (fun target kt => ?_) ?_
          · refine XS.iconst X713.here hx rfl (hb hby at_168) ?_
            refine XS.icmpNo X713.here hx rfl (hb hby at_169) rfl (teq (by decide : (1 : Int32) = (1 : Int32))).2 ?_
            refine XS.aload X713.here hx rfl (hb hby at_172) rfl rfl ?_
            refine XS.aload X713.here hx rfl (hb hby at_174) rfl rfl ?_
            exact kt
          have c714 := c700.keep Kq703
          obtain ⟨cq715, kq715, q715a, q715b, q715c⟩ := isOf hZ eq713 q704
          obtain ⟨_, _, ⟨T715, L715, k715, n715⟩, -, X715, ⟨Lc715, hQ715, l715, y715, z715⟩, st715⟩ := X713.virtualBack hx (y := (⟨sq0, "get", "(Ljava/lang/Object;)Ljava/lang/Object;"⟩ : MethodName)) (z := (⟨sq0, "get", "(Ljava/lang/Object;)Ljava/lang/Object;"⟩ : MethodName)) hown (mvT hZ (hw _ tw126)) (mvT hZ (hw _ tw127)) (notFace_of_selects (args := #[]) (mvT hZ (hw _ tw129))) (mvT hZ (hw _ tw129)) (mvT hZ (hw _ tw128)) (by decide) (backOf (W := 0) (rm22_same_4 l Z a0 hw [] b10 b46 (((((0 : Int32) + (1 : Int32)) + (1 : Int32)) + (1 : Int32)) + (1 : Int32)) wcs b356 k357 b80 T703.heap n0 (Nat.le_trans Z0 K711.1) O712 S_CS hcs q704 q705 q706 q707 q708 q709 q710 c714) hZ (hw _ tw130) (hw _ tw2) (by decide) (by decide)) q715a q715c (g := (mkF m 176 #[.val (.int p0), .val (.int p1), .val (.int p2), .val (.int p3), .val (.ref b10), .val (.ref b29), .val (.ref b46), .val (.ref b63), .val (.ref b80), .val (.int 3), .val (.int 1), .val .null] [(.ref b46), (.ref b10)])) rfl (by rw [hml]; rfl) (Steps.refl _) (argsL := [(.ref b46)]) (rest := []) (lenOf pd17 rfl) rfl (by show 2 * 0 + _ ≤ _; exact Nat.le_of_eq rfl) (hb hby at_176) (fun _ _ => ⟨rfl, eq713, (by decide : 18 + 0 ≤ _), (by decide : 107 + 0 ≤ _)⟩)
          dsimp only [Pt.U, Pt.locs, Pt.cells, Pt.slots] at X715 l715 y715 z715 st715 hQ715
          subst l715 y715 z715
          obtain ⟨rfl, Nq715, eq715⟩ := hQ715
          have N715 := Fr.app N713 Nq715
          refine GoW.by st715 ?_
          show GoW _ _ _ _ _ _ _ (T715.setTop (mkF m 179 _ [(.ref b80)]))
          refine GoW.st (t' := T715.setTop (mkF m 189 #[.val (.int p0), .val (.int p1), .val (.int p2), .val (.int p3), .val (.ref b10), .val (.ref b29), .val (.ref b46), .val (.ref b63), .val (.ref b80), .val (.int 3), .val (.int 1), .val .null] [(.int 1)])) (fun target kt => ?_) ?_
          · refine XS.aload X715.here hx rfl (hb hby at_179) rfl rfl ?_
            refine Jvm.RoadKit.acmp (g := (mkF m 181 #[.val (.int p0), .val (.int p1), .val (.int p2), .val (.int p3), .val (.ref b10), .val (.ref b29), .val (.ref b46), .val (.ref b63), .val (.ref b80), .val (.int 3), .val (.int 1), .val .null] [(.ref b80), (.ref b80)])) X715 hx rfl rfl rfl (pc0 := 181) (pc' := 184) (same := true) rfl (hb hby at_181) rfl (decide_eq_true rfl) (by decide) (by decide) ?_
            refine XS.iconst X715.here hx rfl (hb hby at_184) ?_
            refine XS.goto X715.here hx rfl (pc0 := 185) (pc' := 189) rfl (hb hby at_185) (by decide) (by decide) ?_
            exact kt
          refine GoW.ret X715 hSi (by rw [eq715]; exact (Nat.le_refl _)) (v := some (.int 1)) (fun h => by rw [hret] at h; cases h) hlk (fun fs hr => retN X715 hx (t := .boolean) hret (by simp) (hb hby at_189) hr) ?_ (by decide) (by decide)
          show Q0 Z p0 p1 p2 p3 wn kn wm wcs wc clc h0 n0 _ T715.heap _
          rw [eq715]
          exact ⟨rfl, N715, K711⟩
        · skip
          have c716 := (((q69.keep Kq79).keep Kq344).keep Kq355).keep Kq567
          have o717 : b47 < b63 := Nat.lt_of_lt_of_le q55.lt q67
          have o718 : b10 < b63 := Nat.lt_trans o549 o717
          have ne719 : b10 ≠ b63 := Nat.ne_of_lt o718
          have o720 : b63 < b356 := Nat.lt_of_lt_of_le q69.lt (Nat.le_trans (Nat.le_trans Kq79.1 Kq344.1) q358)
          have ne721 : b63 ≠ b356 := Nat.ne_of_lt o720
          have c722 := (((q70.keep Kq79 nin0).keep Kq344 nin0).keep Kq355 (ninS (Ne.symm ne719) nin0)).keep Kq567 (ninS (Ne.symm ne719) (ninS ne721 nin0))
          have c723 := (((q71.keep Kq79 nin0).keep Kq344 nin0).keep Kq355 (ninS (Ne.symm ne719) nin0)).keep Kq567 (ninS (Ne.symm ne719) (ninS ne721 nin0))
          have ne724 : b10 ≠ b64 := Nat.ne_of_lt o563
          have ne725 : b64 ≠ b356 := Nat.ne_of_lt o564
          have c726 := (((q72.keep Kq79 nin0).keep Kq344 nin0).keep Kq355 (ninS (Ne.symm ne724) nin0)).keep Kq567 (ninS (Ne.symm ne724) (ninS ne725 nin0))
          have c727 := c552.keep Kq567
          have o728 : b29 < b47 := Nat.lt_of_lt_of_le q35.lt q51
          have o729 : b29 < b64 := Nat.lt_trans o728 o562
          have o730 : b29 < b356 := Nat.lt_trans o729 o564
          have ne731 : b29 ≠ b356 := Nat.ne_of_lt o730
          have c732 := c555.keep Kq567 (ninS (Ne.symm ne554) (ninS ne731 nin0))
          have c733 := c556.keep Kq567 (ninS (Ne.symm ne554) (ninS ne731 nin0))
          have o734 : b30 < b64 := Nat.lt_trans o548 o562
          have o735 : b30 < b356 := Nat.lt_trans o734 o564
          have ne736 : b30 ≠ b356 := Nat.ne_of_lt o735
          have c737 := c558.keep Kq567 (ninS (Ne.symm ne557) (ninS ne736 nin0))
          have c738 := c541.keep Kq567
          have o739 : b46 < b64 := Nat.lt_of_lt_of_le q52.lt q68
          have o740 : b46 < b356 := Nat.lt_trans o739 o564
          have ne741 : b46 ≠ b356 := Nat.ne_of_lt o740
          have c742 := c546.keep Kq567 (ninS (Ne.symm ne545) (ninS ne741 nin0))
          have c743 := c547.keep Kq567 (ninS (Ne.symm ne545) (ninS ne741 nin0))
          have o744 : b47 < b356 := Nat.lt_trans o562 o564
          have ne745 : b47 ≠ b356 := Nat.ne_of_lt o744
          have c746 := c551.keep Kq567 (ninS (Ne.symm ne550) (ninS ne745 nin0))
          have c747 := (q346.keep Kq355).keep Kq567
          have c748 := c559.keep Kq567
          have o749 : b29 < b63 := Nat.lt_trans o728 o717
          have ne750 : b29 ≠ b63 := Nat.ne_of_lt o749
          have o751 : b46 < b63 := Nat.lt_of_lt_of_le q52.lt q67
          have ne752 : b46 ≠ b63 := Nat.ne_of_lt o751
          obtain ⟨cq753, kq753, q753a, q753b, q753c⟩ := isOf hZ rfl q568
          obtain ⟨_, _, ⟨T753, L753, k753, n753⟩, -, X753, hSn753, hgr753, ⟨Lc753, hQ753, l753, y753, z753⟩, st753⟩ := X567.virtualBackS hx (y := (⟨sq0, "put", sq4⟩ : MethodName)) (z := (⟨sq0, "put", sq4⟩ : MethodName)) hown (mvT hZ (hw _ tw49)) (mvT hZ (hw _ tw50)) (notFace_of_selects (args := #[]) (mvT hZ (hw _ tw52))) (mvT hZ (hw _ tw52)) (mvT hZ (hw _ tw51)) (by decide) (backOfS (s := (s.setVm T567.vm)) (W := 0) (rm9_ne_ne_2_4_n l Z a0 hw [] b10 b63 (((0 : Int32) + (1 : Int32)) + (1 : Int32)) wcs wm b356 k357 b29 b345 b46 b80 b64 k65 i66 b30 k31 i32 b47 k48 i49 T567.heap n0 (Nat.le_trans Z0 K575.1) O576 S_CS hcs M_AO q568 q569 q570 q571 q572 q573 q574 c716 c722 c723 c726 c727 c732 c733 c737 (Ne.symm ne750) c738 c742 c743 c746 (Ne.symm ne752) g13 g368 q359 ne566 c747 c748 hc577 hc641) hZ (hw _ tw53) (hw _ tw2) (by decide) (by decide)) q753a q753c (g := (mkF m 98 #[.val (.int p0), .val (.int p1), .val (.int p2), .val (.int p3), .val (.ref b10), .val (.ref b29), .val (.ref b46), .val (.ref b63), .val (.ref b80), .val (.int 3), .unset, .unset] [.null, (.ref b63), (.ref b10)])) rfl (by rw [hml]; rfl) (Steps.refl _) (argsL := [(.ref b63), .null]) (rest := []) (lenOf pd18 rfl) rfl (by show 2 * 0 + _ ≤ _; exact Nat.le_of_eq rfl) (hb hby at_98) (fun _ _ => ⟨rfl, rfl, (by decide : 14 + 3 ≤ _), (by decide : 67 + 26 ≤ _)⟩)
          dsimp only [Pt.U, Pt.locs, Pt.cells, Pt.slots] at X753 l753 y753 z753 st753 hQ753 hSn753 hgr753
          subst l753 y753 z753
          have hSi := foldS hSi (Nat.le_refl _) hSn753 hgr753
          have hown : T753.vm.findClass "com/example/graphweave/graphweave/json/JsonObjectClearPinLaw" = some m.cls := by rw [hSn753.1.alike.findClass]; exact hown
          have hZ : Z.Warmed39 T753.vm := State.Warmed39.trans (t := (s.setVm T567.vm)) hZ hSn753.1
          have X753 : Stand p l e room_1 (s.setVm T753.vm) m #[(.int p0), (.int p1), (.int p2), (.int p3)] below meth c T753 _ _ _ := X753
          obtain ⟨b754, k755, rfl, Nq753, Kq753, q756, q757, q758, q759, q760, q761, q762, q763, q764⟩ := hQ753
          have N753 := Fr.app N567 Nq753
          have sz765 : h0.size ≤ b754 := Nat.le_trans K575.1 q756
          have g766 : n0 ≤ b754 := Nat.le_trans Z0 sz765
          have K767 := K575.trans Kq753 (allS (Or.inr sz12) all0)
          have O768 := O576.keep Kq753 (allS g13 all0)
          refine GoW.by st753 ?_
          show GoW _ _ _ _ _ _ _ (T753.setTop (mkF m 101 _ [.null]))
          refine GoW.st (t' := T753.setTop (mkF m 104 #[.val (.int p0), .val (.int p1), .val (.int p2), .val (.int p3), .val (.ref b10), .val (.ref b29), .val (.ref b46), .val (.ref b63), .val (.ref b80), .val (.int 3), .unset, .unset] [(.ref b10)])) (fun target kt => ?_) ?_
          · refine XS.pop X753.here hx rfl (hb hby at_101) rfl rfl ?_
            refine XS.aload X753.here hx rfl (hb hby at_102) rfl rfl ?_
            exact kt
          have o769 : b356 < b754 := Nat.lt_of_lt_of_le q365.lt (Nat.le_trans Kq567.1 q756)
          have o770 : b10 < b754 := Nat.lt_trans o565 o769
          have ne771 : b10 ≠ b754 := Nat.ne_of_lt o770
          obtain ⟨cq772, kq772, q772a, q772b, q772c⟩ := isOf hZ rfl q758
          obtain ⟨_, _, ⟨T772, L772, k772, n772⟩, -, X772, ⟨Lc772, hQ772, l772, y772, z772⟩, st772⟩ := X753.virtualBack hx (y := (⟨sq0, "clear", "()V"⟩ : MethodName)) (z := (⟨sq0, "clear", "()V"⟩ : MethodName)) hown (mvT hZ (hw _ tw105)) (mvT hZ (hw _ tw106)) (notFace_of_selects (args := #[]) (mvT hZ (hw _ tw108))) (mvT hZ (hw _ tw108)) (mvT hZ (hw _ tw107)) (by decide) (backOf (W := 0) (rm17_6_3 l Z a0 hw [] b10 b754 k755 (.ref b29) (.ref b345) (.ref b46) (.ref b80) (.ref b63) .null ((((0 : Int32) + (1 : Int32)) + (1 : Int32)) + (1 : Int32)) T753.heap n0 (Nat.le_trans Z0 K767.1) O768  q758 q759 q760 q761 q762 q763 q764 g13 g766 ne771) hZ (hw _ tw109) (hw _ tw2) (by decide) (by decide)) q772a q772c (g := (mkF m 104 #[.val (.int p0), .val (.int p1), .val (.int p2), .val (.int p3), .val (.ref b10), .val (.ref b29), .val (.ref b46), .val (.ref b63), .val (.ref b80), .val (.int 3), .unset, .unset] [(.ref b10)])) rfl (by rw [hml]; rfl) (Steps.refl _) (argsL := []) (rest := []) (lenOf pd0 rfl) rfl (by show 2 * 0 + _ ≤ _; exact Nat.le_of_eq rfl) (hb hby at_104) (fun _ _ => ⟨rfl, rfl, (by decide : 17 + 0 ≤ _), (by decide : 93 + 0 ≤ _)⟩)
          dsimp only [Pt.U, Pt.locs, Pt.cells, Pt.slots] at X772 l772 y772 z772 st772 hQ772
          subst l772 y772 z772
          obtain ⟨rfl, Nq772, Kq772, q773, q774, q775, q776, q777, q778, q779⟩ := hQ772
          have N772 := Fr.app N753 Nq772
          have K780 := K767.trans Kq772 (allS (Or.inr sz12) (allS (Or.inr sz765) all0))
          have O781 := O768.keep Kq772 (allS g13 (allS g766 all0))
          refine GoW.by st772 ?_
          show GoW _ _ _ _ _ _ _ (T772.setTop (mkF m 107 _ []))
          refine GoW.st (t' := T772.setTop (mkF m 109 #[.val (.int p0), .val (.int p1), .val (.int p2), .val (.int p3), .val (.ref b10), .val (.ref b29), .val (.ref b46), .val (.ref b63), .val (.ref b80), .val (.int 3), .unset, .unset] [(.ref b10)])) (fun target kt => ?_) ?_
          · refine XS.aload X772.here hx rfl (hb hby at_107) rfl rfl ?_
            exact kt
          obtain ⟨cq782, kq782, q782a, q782b, q782c⟩ := isOf hZ rfl q773
          obtain ⟨_, _, ⟨T782, L782, k782, n782⟩, -, X782, ⟨Lc782, hQ782, l782, y782, z782⟩, st782⟩ := X772.virtualBack hx (y := (⟨sq0, "size", "()I"⟩ : MethodName)) (z := (⟨sq0, "size", "()I"⟩ : MethodName)) hown (mvT hZ (hw _ tw116)) (mvT hZ (hw _ tw117)) (notFace_of_selects (args := #[]) (mvT hZ (hw _ tw119))) (mvT hZ (hw _ tw119)) (mvT hZ (hw _ tw118)) (by decide) (backOf (W := 0) (rm20 l Z a0 hw [] b10 (0 : Int32) T772.heap n0 (Nat.le_trans Z0 K780.1) O781  q776) hZ (hw _ tw120) (hw _ tw2) (by decide) (by decide)) q782a q782c (g := (mkF m 109 #[.val (.int p0), .val (.int p1), .val (.int p2), .val (.int p3), .val (.ref b10), .val (.ref b29), .val (.ref b46), .val (.ref b63), .val (.ref b80), .val (.int 3), .unset, .unset] [(.ref b10)])) rfl (by rw [hml]; rfl) (Steps.refl _) (argsL := []) (rest := []) (lenOf pd16 rfl) rfl (by show 2 * 0 + _ ≤ _; exact Nat.le_of_eq rfl) (hb hby at_109) (fun _ _ => ⟨rfl, rfl, (by decide : 17 + 0 ≤ _), (by decide : 93 + 0 ≤ _)⟩)
          dsimp only [Pt.U, Pt.locs, Pt.cells, Pt.slots] at X782 l782 y782 z782 st782 hQ782
          subst l782 y782 z782
          obtain ⟨rfl, Nq782, eq782⟩ := hQ782
          have N782 := Fr.app N772 Nq782
          refine GoW.by st782 ?_
          show GoW _ _ _ _ _ _ _ (T782.setTop (mkF m 112 _ [(.int 0)]))
          refine GoW.st (t' := T782.setTop (mkF m 119 #[.val (.int p0), .val (.int p1), .val (.int p2), .val (.int p3), .val (.ref b10), .val (.ref b29), .val (.ref b46), .val (.ref b63), .val (.ref b80), .val (.int 3), .unset, .unset] [(.ref b29), (.ref b10)])) (fun target kt => ?_) ?_
          · refine XS.ifNo X782.here hx rfl (hb hby at_112) rfl ((if0 _ _).trans (teq (by decide : (0 : Int32) = (0 : Int32))).2) ?_
            refine XS.aload X782.here hx rfl (hb hby at_115) rfl rfl ?_
            refine XS.aload X782.here hx rfl (hb hby at_117) rfl rfl ?_
            exact kt
          have c783 := (c727.keep Kq753).keep Kq772
          obtain ⟨cq784, kq784, q784a, q784b, q784c⟩ := isOf hZ eq782 q773
          obtain ⟨_, _, ⟨T784, L784, k784, n784⟩, -, X784, ⟨Lc784, hQ784, l784, y784, z784⟩, st784⟩ := X782.virtualBack hx (y := (⟨sq0, "containsKey", "(Ljava/lang/Object;)Z"⟩ : MethodName)) (z := (⟨sq0, "containsKey", "(Ljava/lang/Object;)Z"⟩ : MethodName)) hown (mvT hZ (hw _ tw121)) (mvT hZ (hw _ tw122)) (notFace_of_selects (args := #[]) (mvT hZ (hw _ tw124))) (mvT hZ (hw _ tw124)) (mvT hZ (hw _ tw123)) (by decide) (backOf (W := 0) (rm21_6 l Z a0 hw [] b10 b29 (((((0 : Int32) + (1 : Int32)) + (1 : Int32)) + (1 : Int32)) + (1 : Int32)) wcs b754 k755 T772.heap n0 (Nat.le_trans Z0 K780.1) O781 S_CS hcs q773 q774 q775 q776 q777 q778 q779 c783) hZ (hw _ tw125) (hw _ tw2) (by decide) (by decide)) q784a q784c (g := (mkF m 119 #[.val (.int p0), .val (.int p1), .val (.int p2), .val (.int p3), .val (.ref b10), .val (.ref b29), .val (.ref b46), .val (.ref b63), .val (.ref b80), .val (.int 3), .unset, .unset] [(.ref b29), (.ref b10)])) rfl (by rw [hml]; rfl) (Steps.refl _) (argsL := [(.ref b29)]) (rest := []) (lenOf pd6 rfl) rfl (by show 2 * 0 + _ ≤ _; exact Nat.le_of_eq rfl) (hb hby at_119) (fun _ _ => ⟨rfl, eq782, (by decide : 17 + 0 ≤ _), (by decide : 93 + 0 ≤ _)⟩)
          dsimp only [Pt.U, Pt.locs, Pt.cells, Pt.slots] at X784 l784 y784 z784 st784 hQ784
          subst l784 y784 z784
          obtain ⟨rfl, Nq784, eq784⟩ := hQ784
          have N784 := Fr.app N782 Nq784
          refine GoW.by st784 ?_
          show GoW _ _ _ _ _ _ _ (T784.setTop (mkF m 122 _ [(.int 0)]))
          refine GoW.st (t' := T784.setTop (mkF m 129 #[.val (.int p0), .val (.int p1), .val (.int p2), .val (.int p3), .val (.ref b10), .val (.ref b29), .val (.ref b46), .val (.ref b63), .val (.ref b80), .val (.int 3), .unset, .unset] [(.ref b46), (.ref b10)])) (fun target kt => ?_) ?_
          · refine XS.ifNo X784.here hx rfl (hb hby at_122) rfl ((if0 _ _).trans (teq (by decide : (0 : Int32) = (0 : Int32))).2) ?_
            refine XS.aload X784.here hx rfl (hb hby at_125) rfl rfl ?_
            refine XS.aload X784.here hx rfl (hb hby at_127) rfl rfl ?_
            exact kt
          have c785 := (c738.keep Kq753).keep Kq772
          obtain ⟨cq786, kq786, q786a, q786b, q786c⟩ := isOf hZ eq784 q773
          obtain ⟨_, _, ⟨T786, L786, k786, n786⟩, -, X786, ⟨Lc786, hQ786, l786, y786, z786⟩, st786⟩ := X784.virtualBack hx (y := (⟨sq0, "get", "(Ljava/lang/Object;)Ljava/lang/Object;"⟩ : MethodName)) (z := (⟨sq0, "get", "(Ljava/lang/Object;)Ljava/lang/Object;"⟩ : MethodName)) hown (mvT hZ (hw _ tw126)) (mvT hZ (hw _ tw127)) (notFace_of_selects (args := #[]) (mvT hZ (hw _ tw129))) (mvT hZ (hw _ tw129)) (mvT hZ (hw _ tw128)) (by decide) (backOf (W := 0) (rm22_none_6 l Z a0 hw [] b10 b46 (((((0 : Int32) + (1 : Int32)) + (1 : Int32)) + (1 : Int32)) + (1 : Int32)) wcs b754 k755 T772.heap n0 (Nat.le_trans Z0 K780.1) O781 S_CS hcs q773 q774 q775 q776 q777 q778 q779 c785) hZ (hw _ tw130) (hw _ tw2) (by decide) (by decide)) q786a q786c (g := (mkF m 129 #[.val (.int p0), .val (.int p1), .val (.int p2), .val (.int p3), .val (.ref b10), .val (.ref b29), .val (.ref b46), .val (.ref b63), .val (.ref b80), .val (.int 3), .unset, .unset] [(.ref b46), (.ref b10)])) rfl (by rw [hml]; rfl) (Steps.refl _) (argsL := [(.ref b46)]) (rest := []) (lenOf pd17 rfl) rfl (by show 2 * 0 + _ ≤ _; exact Nat.le_of_eq rfl) (hb hby at_129) (fun _ _ => ⟨rfl, eq784, (by decide : 17 + 0 ≤ _), (by decide : 93 + 0 ≤ _)⟩)
          dsimp only [Pt.U, Pt.locs, Pt.cells, Pt.slots] at X786 l786 y786 z786 st786 hQ786
          subst l786 y786 z786
          obtain ⟨rfl, Nq786, eq786⟩ := hQ786
          have N786 := Fr.app N784 Nq786
          refine GoW.by st786 ?_
          show GoW _ _ _ _ _ _ _ (T786.setTop (mkF m 132 _ [.null]))
          refine GoW.st (t' := T786.setTop (mkF m 148 #[.val (.int p0), .val (.int p1), .val (.int p2), .val (.int p3), .val (.ref b10), .val (.ref b29), .val (.ref b46), .val (.ref b63), .val (.ref b80), .val (.int 3), .val (.int 1), .unset] [(.ref b80), (.ref b46), (.ref b10)])) (fun target kt => ?_) ?_
          · refine XS.ifnonnullNo X786.here hx rfl (hb hby at_132) rfl ?_
            refine XS.iconst X786.here hx rfl (hb hby at_135) ?_
            refine XS.goto X786.here hx rfl (pc0 := 136) (pc' := 140) rfl (hb hby at_136) (by decide) (by decide) ?_
            refine XS.istore X786.here hx rfl (hb hby at_140) rfl (l' := #[.val (.int p0), .val (.int p1), .val (.int p2), .val (.int p3), .val (.ref b10), .val (.ref b29), .val (.ref b46), .val (.ref b63), .val (.ref b80), .val (.int 3), .val (.int 1), .unset]) rfl ?_
            refine XS.aload X786.here hx rfl (hb hby at_142) rfl rfl ?_
            refine XS.aload X786.here hx rfl (hb hby at_144) rfl rfl ?_
            refine XS.aload X786.here hx rfl (hb hby at_146) rfl rfl ?_
            exact kt
          have c787 := (c748.keep Kq753).keep Kq772
          obtain ⟨cq788, kq788, q788a, q788b, q788c⟩ := isOf hZ eq786 q773
          obtain ⟨_, _, ⟨T788, L788, k788, n788⟩, -, X788, hSn788, hgr788, ⟨Lc788, hQ788, l788, y788, z788⟩, st788⟩ := X786.virtualBackS hx (y := (⟨sq0, "put", sq4⟩ : MethodName)) (z := (⟨sq0, "put", sq4⟩ : MethodName)) hown (mvT hZ (hw _ tw49)) (mvT hZ (hw _ tw50)) (notFace_of_selects (args := #[]) (mvT hZ (hw _ tw52))) (mvT hZ (hw _ tw52)) (mvT hZ (hw _ tw51)) (by decide) (backOfS (s := (s.setVm T753.vm)) (W := 0) (rm9_none_0_6_R l Z a0 hw [] b10 b46 b80 (((((0 : Int32) + (1 : Int32)) + (1 : Int32)) + (1 : Int32)) + (1 : Int32)) wcs wm b754 k755 T772.heap n0 (Nat.le_trans Z0 K780.1) O781 S_CS hcs M_AO q773 q774 q775 q776 q777 q778 q779 c785 g13 g766 q757 ne771 c787) hZ (hw _ tw53) (hw _ tw2) (by decide) (by decide)) q788a q788c (g := (mkF m 148 #[.val (.int p0), .val (.int p1), .val (.int p2), .val (.int p3), .val (.ref b10), .val (.ref b29), .val (.ref b46), .val (.ref b63), .val (.ref b80), .val (.int 3), .val (.int 1), .unset] [(.ref b80), (.ref b46), (.ref b10)])) rfl (by rw [hml]; rfl) (Steps.refl _) (argsL := [(.ref b46), (.ref b80)]) (rest := []) (lenOf pd18 rfl) rfl (by show 2 * 0 + _ ≤ _; exact Nat.le_of_eq rfl) (hb hby at_148) (fun _ _ => ⟨rfl, eq786, (by decide : 17 + 2 ≤ _), (by decide : 93 + 20 ≤ _)⟩)
          dsimp only [Pt.U, Pt.locs, Pt.cells, Pt.slots] at X788 l788 y788 z788 st788 hQ788 hSn788 hgr788
          subst l788 y788 z788
          have hSi := foldS hSi (by rw [eq786]; exact (Nat.le_trans (Nat.le_refl _) Kq772.1)) hSn788 hgr788
          have hown : T788.vm.findClass "com/example/graphweave/graphweave/json/JsonObjectClearPinLaw" = some m.cls := by rw [hSn788.1.alike.findClass]; exact hown
          have hZ : Z.Warmed39 T788.vm := State.Warmed39.trans (t := (s.setVm T753.vm)) hZ hSn788.1
          have X788 : Stand p l e room_1 (s.setVm T788.vm) m #[(.int p0), (.int p1), (.int p2), (.int p3)] below meth c T788 _ _ _ := X788
          obtain ⟨rfl, Nq788, Kq788, q789, q790, q791, q792, q793, q794, q795⟩ := hQ788
          have N788 := Fr.app N786 Nq788
          have K796 := K780.trans Kq788 (allS (Or.inr sz12) (allS (Or.inr sz765) all0))
          have O797 := O781.keep Kq788 (allS g13 (allS g766 all0))
          refine GoW.by st788 ?_
          show GoW _ _ _ _ _ _ _ (T788.setTop (mkF m 151 _ [.null]))
          refine GoW.st (t' := T788.setTop (mkF m 165 #[.val (.int p0), .val (.int p1), .val (.int p2), .val (.int p3), .val (.ref b10), .val (.ref b29), .val (.ref b46), .val (.ref b63), .val (.ref b80), .val (.int 3), .val (.int 1), .val .null] [(.ref b10)])) (fun target kt => ?_) ?_
          · refine XS.astore X788.here hx rfl (hb hby at_151) rfl rfl (l' := #[.val (.int p0), .val (.int p1), .val (.int p2), .val (.int p3), .val (.ref b10), .val (.ref b29), .val (.ref b46), .val (.ref b63), .val (.ref b80), .val (.int 3), .val (.int 1), .val .null]) rfl ?_
            refine XS.iload X788.here hx rfl (hb hby at_153) rfl ?_
            refine XS.ifNo X788.here hx rfl (hb hby at_155) rfl ((if0 _ _).trans (feq (by decide : ¬ ((1 : Int32) = (0 : Int32)))).1) ?_
            refine XS.aload X788.here hx rfl (hb hby at_158) rfl rfl ?_
            refine XS.ifnonnullNo X788.here hx rfl (hb hby at_160) rfl ?_
            refine XS.aload X788.here hx rfl (hb hby at_163) rfl rfl ?_
            exact kt
          obtain ⟨cq798, kq798, q798a, q798b, q798c⟩ := isOf hZ rfl q789
          obtain ⟨_, _, ⟨T798, L798, k798, n798⟩, -, X798, ⟨Lc798, hQ798, l798, y798, z798⟩, st798⟩ := X788.virtualBack hx (y := (⟨sq0, "size", "()I"⟩ : MethodName)) (z := (⟨sq0, "size", "()I"⟩ : MethodName)) hown (mvT hZ (hw _ tw116)) (mvT hZ (hw _ tw117)) (notFace_of_selects (args := #[]) (mvT hZ (hw _ tw119))) (mvT hZ (hw _ tw119)) (mvT hZ (hw _ tw118)) (by decide) (backOf (W := 0) (rm20 l Z a0 hw [] b10 (1 : Int32) T788.heap n0 (Nat.le_trans Z0 K796.1) O797  q792) hZ (hw _ tw120) (hw _ tw2) (by decide) (by decide)) q798a q798c (g := (mkF m 165 #[.val (.int p0), .val (.int p1), .val (.int p2), .val (.int p3), .val (.ref b10), .val (.ref b29), .val (.ref b46), .val (.ref b63), .val (.ref b80), .val (.int 3), .val (.int 1), .val .null] [(.ref b10)])) rfl (by rw [hml]; rfl) (Steps.refl _) (argsL := []) (rest := []) (lenOf pd16 rfl) rfl (by show 2 * 0 + _ ≤ _; exact Nat.le_of_eq rfl) (hb hby at_165) (fun _ _ => ⟨rfl, rfl, (by decide : 19 + 0 ≤ _), (by decide : 113 + 0 ≤ _)⟩)
          dsimp only [Pt.U, Pt.locs, Pt.cells, Pt.slots] at X798 l798 y798 z798 st798 hQ798
          subst l798 y798 z798
          obtain ⟨rfl, Nq798, eq798⟩ := hQ798
          have N798 := Fr.app N788 Nq798
          refine GoW.by st798 ?_
          show GoW _ _ _ _ _ _ _ (T798.setTop (mkF m 168 _ [(.int 1)]))
          refine GoW.st (t' := T798.setTop (mkF m 176 #[.val (.int p0), .val (.int p1), .val (.int p2), .val (.int p3), .val (.ref b10), .val (.ref b29), .val (.ref b46), .val (.ref b63), .val (.ref b80), .val (.int 3), .val (.int 1), .val .null] [(.ref b46), (.ref b10)])) (fun target kt => ?_) ?_
          · refine XS.iconst X798.here hx rfl (hb hby at_168) ?_
            refine XS.icmpNo X798.here hx rfl (hb hby at_169) rfl (teq (by decide : (1 : Int32) = (1 : Int32))).2 ?_
            refine XS.aload X798.here hx rfl (hb hby at_172) rfl rfl ?_
            refine XS.aload X798.here hx rfl (hb hby at_174) rfl rfl ?_
            exact kt
          have c799 := c785.keep Kq788
          obtain ⟨cq800, kq800, q800a, q800b, q800c⟩ := isOf hZ eq798 q789
          obtain ⟨_, _, ⟨T800, L800, k800, n800⟩, -, X800, ⟨Lc800, hQ800, l800, y800, z800⟩, st800⟩ := X798.virtualBack hx (y := (⟨sq0, "get", "(Ljava/lang/Object;)Ljava/lang/Object;"⟩ : MethodName)) (z := (⟨sq0, "get", "(Ljava/lang/Object;)Ljava/lang/Object;"⟩ : MethodName)) hown (mvT hZ (hw _ tw126)) (mvT hZ (hw _ tw127)) (notFace_of_selects (args := #[]) (mvT hZ (hw _ tw129))) (mvT hZ (hw _ tw129)) (mvT hZ (hw _ tw128)) (by decide) (backOf (W := 0) (rm22_same_6 l Z a0 hw [] b10 b46 ((((((0 : Int32) + (1 : Int32)) + (1 : Int32)) + (1 : Int32)) + (1 : Int32)) + (1 : Int32)) wcs b754 k755 b80 T788.heap n0 (Nat.le_trans Z0 K796.1) O797 S_CS hcs q789 q790 q791 q792 q793 q794 q795 c799) hZ (hw _ tw130) (hw _ tw2) (by decide) (by decide)) q800a q800c (g := (mkF m 176 #[.val (.int p0), .val (.int p1), .val (.int p2), .val (.int p3), .val (.ref b10), .val (.ref b29), .val (.ref b46), .val (.ref b63), .val (.ref b80), .val (.int 3), .val (.int 1), .val .null] [(.ref b46), (.ref b10)])) rfl (by rw [hml]; rfl) (Steps.refl _) (argsL := [(.ref b46)]) (rest := []) (lenOf pd17 rfl) rfl (by show 2 * 0 + _ ≤ _; exact Nat.le_of_eq rfl) (hb hby at_176) (fun _ _ => ⟨rfl, eq798, (by decide : 19 + 0 ≤ _), (by decide : 113 + 0 ≤ _)⟩)
          dsimp only [Pt.U, Pt.locs, Pt.cells, Pt.slots] at X800 l800 y800 z800 st800 hQ800
          subst l800 y800 z800
          obtain ⟨rfl, Nq800, eq800⟩ := hQ800
          have N800 := Fr.app N798 Nq800
          refine GoW.by st800 ?_
          show GoW _ _ _ _ _ _ _ (T800.setTop (mkF m 179 _ [(.ref b80)]))
          refine GoW.st (t' := T800.setTop (mkF m 189 #[.val (.int p0), .val (.int p1), .val (.int p2), .val (.int p3), .val (.ref b10), .val (.ref b29), .val (.ref b46), .val (.ref b63), .val (.ref b80), .val (.int 3), .val (.int 1), .val .null] [(.int 1)])) (fun target kt => ?_) ?_
          · refine XS.aload X800.here hx rfl (hb hby at_179) rfl rfl ?_
            refine Jvm.RoadKit.acmp (g := (mkF m 181 #[.val (.int p0), .val (.int p1), .val (.int p2), .val (.int p3), .val (.ref b10), .val (.ref b29), .val (.ref b46), .val (.ref b63), .val (.ref b80), .val (.int 3), .val (.int 1), .val .null] [(.ref b80), (.ref b80)])) X800 hx rfl rfl rfl (pc0 := 181) (pc' := 184) (same := true) rfl (hb hby at_181) rfl (decide_eq_true rfl) (by decide) (by decide) ?_
            refine XS.iconst X800.here hx rfl (hb hby at_184) ?_
            refine XS.goto X800.here hx rfl (pc0 := 185) (pc' := 189) rfl (hb hby at_185) (by decide) (by decide) ?_
            exact kt
          refine GoW.ret X800 hSi (by rw [eq800]; exact (Nat.le_refl _)) (v := some (.int 1)) (fun h => by rw [hret] at h; cases h) hlk (fun fs hr => retN X800 hx (t := .boolean) hret (by simp) (hb hby at_189) hr) ?_ (by decide) (by decide)
          show Q0 Z p0 p1 p2 p3 wn kn wm wcs wc clc h0 n0 _ T800.heap _
          rw [eq800]
          exact ⟨rfl, N800, K796⟩
theorem tw15 : (Jvm.Cond.laysStatic "com/example/graphweave/graphweave/json/JsonObject" "NO_MEMBERS" "[Ljava/lang/Object;") ∈ tables_1 := List.mem_of_getElem? (i := 15) rfl
theorem tw47 : (Jvm.Cond.initialized "java/lang/Integer$IntegerCache") ∈ tables_1 := List.mem_of_getElem? (i := 47) rfl
theorem comes_1 {Post : Tables → Env → Array Value → State → Outcome → State → Prop} (hpost : ∀ tb e args s v u, (limb_1_1.after args s (.returned v) u = true ∧ limb_1_2.after args s (.returned v) u = true ∧ True) → ReturnedEndW s (.returned v) u (Jvm.fieldLocs frame_1_writes args s ++ Jvm.arrayLocs frame_1_arrays args s ++ Jvm.staticLocs frame_1_statics s) 32 1216 → Post tb e args s (.returned v) u) :
    ArmFor flags0 classFile x code maxLocals ret World_1 tables_1 room_1 Calls_1 rest_1 Pre_1 Post := by
  intro l hfl _ _ p e ha hc hk s m args below hf hA hF happ hP
  obtain ⟨hcalls, hrest, hpre⟩ := hP
  obtain ⟨-, -, -, hnamed, -, -, -, hat⟩ := (Spec.applies_iff hf).mp happ
  obtain ⟨hg, hn⟩ := and_e (Cond.before_iff.mp (show (Jvm.Cond.and given_1 narrow_1).before args s = true from hpre))
  obtain ⟨g1, g2⟩ := and_e hg
  obtain ⟨g3, g4⟩ := and_e g2
  obtain ⟨g5, g6⟩ := and_e g4
  obtain ⟨g7, g8⟩ := and_e g6
  obtain ⟨w0_, w1_, w2_, w3_, rfl⟩ : ∃ w0_ w1_ w2_ w3_ : Value, args = #[w0_, w1_, w2_, w3_] := by
    have hs : args.size = 4 := by simpa [Cond.value, given_1] using g1
    obtain ⟨L⟩ := args
    match L, hs with
    | [w0_, w1_, w2_, w3_], _ => exact ⟨w0_, w1_, w2_, w3_, rfl⟩
  have hw := fun d (hd : d ∈ tables_1) => atoms_spec (ws := Jvm.Cond.code x code maxLocals ret :: tables_1) hat d (List.mem_cons_of_mem _ hd)
  have hfit : Fit s := fun {y c} hc i hi => by
    obtain ⟨ha, rfl⟩ := Array.getElem?_eq_some_iff.mp hc
    have q := List.all_eq_true.mp ((Array.all_eq_true_iff_forall_mem.mp hF) _ (Array.getElem_mem ha)) i (List.mem_range.mpr hi)
    simpa [Array.getElem?_eq_getElem hi] using q
  obtain ⟨hsets, hown0⟩ := atoms_of _ (rest_1_c_eq ▸ (show rest_1_c.before _ s = true from hrest))
  have hr0 := Cond.before_iff.mp hown0
  obtain ⟨i0, ei0⟩ := is_v g3
  obtain rfl : w0_ = (.int i0) := Option.some.inj ei0
  obtain ⟨i1, ei1⟩ := is_v g5
  obtain rfl : w1_ = (.int i1) := Option.some.inj ei1
  obtain ⟨i2, ei2⟩ := is_v g7
  obtain rfl : w2_ = (.int i2) := Option.some.inj ei2
  obtain ⟨i3, ei3⟩ := is_v g8
  obtain rfl : w3_ = (.int i3) := Option.some.inj ei3
  obtain ⟨n_a, hn⟩ := and_e hn
  obtain ⟨n_e, n_l⟩ := and_e hn
  obtain ⟨wn, ewn⟩ := arr_v n_a
  have S_NM := Sta.start ewn (Or.inr ⟨(hw _ tw2), (hw _ tw15)⟩)
  obtain ⟨cln, A_wn⟩ := Arr.start ewn n_a
  have E_wn := Exa.start ewn n_e
  obtain ⟨Sn, Mn⟩ := own_len (own_eqi n_l) ewn A_wn.1
  have V_wn : Arv s s.heap wn cln.cls (.object sq1) (0 : Int32) [] .null := ⟨cln, A_wn, rfl, Sn, Mn, fun k hk => absurd hk (by rw [Sn]; exact Nat.not_lt_zero _), fun k hk => absurd hk (by rw [Sn]; exact Nat.not_lt_zero _)⟩
  obtain ⟨wcs, ecs⟩ := is_v (Cond.before_iff.mp (hsets _ (List.mem_of_getElem? (i := 1) rfl)))
  have S_CS := Sta.start ecs (Or.inl (hsets _ (List.mem_of_getElem? (i := 0) rfl)))
  have hcs : ¬ (wcs = (0 : Int32)) := by
    intro q
    subst q
    have q1 := not_v (Cond.before_iff.mp (hsets _ (List.mem_of_getElem? (i := 2) rfl)))
    rw [eq_i ecs (Term.int_eval 0) rfl] at q1
    cases q1
  have ehi := own_eqi (Cond.before_iff.mp (hsets _ (List.mem_of_getElem? (i := 12) rfl)))
  have S_HI := Sta.start ehi (Or.inl (hsets _ (List.mem_of_getElem? (i := 10) rfl)))
  obtain ⟨wc, ewc⟩ := arr_v (Cond.before_iff.mp (hsets _ (List.mem_of_getElem? (i := 13) rfl)))
  have S_CA := Sta.start ewc (Or.inr ⟨(hw _ tw47), (hsets _ (List.mem_of_getElem? (i := 11) rfl))⟩)
  obtain ⟨clc, A_CA⟩ := Arr.start ewc (Cond.before_iff.mp (hsets _ (List.mem_of_getElem? (i := 13) rfl)))
  obtain ⟨Sc, Mc⟩ := own_len (own_eqi (Cond.before_iff.mp (hsets _ (List.mem_of_getElem? (i := 15) rfl)))) ewc A_CA.1
  have hcache : ∀ j : Int32, (0 ≤ j.toInt ∧ j.toInt < 256) → ∃ a : Addr, ¬ (j < 0 ∨ clc.slots.size ≤ j.toNatClampNeg) ∧ clc.slots[j.toNatClampNeg]? = some (.ref a) ∧ Exa s s.heap a "java/lang/Integer" := by
    intro j hj
    have hj0 : ¬ j < 0 := by
      rw [Int32.lt_iff_toInt_lt]
      have e0 : (0 : Int32).toInt = 0 := rfl
      omega
    have hlt : j.toNatClampNeg < clc.slots.size := by
      rw [Sc]
      simp only [Int32.toNatClampNeg]
      have e0 : (256 : Int32).toInt = 256 := rfl
      omega
    obtain ⟨q1, -⟩ := and_e (own_all ewc ⟨_, own_eqi (Cond.before_iff.mp (hsets _ (List.mem_of_getElem? (i := 15) rfl)))⟩ A_CA.1 (Cond.before_iff.mp (hsets _ (List.mem_of_getElem? (i := 16) rfl))) _ hlt)
    obtain ⟨x, ex⟩ := exa_v q1
    obtain ⟨hin, hat⟩ := elem_in ex (t := Term.static "java/lang/Integer$IntegerCache" "cache" "[Ljava/lang/Integer;") ewc (idx_at hj0) A_CA.1
    exact ⟨x, hin, hat, exa_at ex q1⟩
  obtain ⟨⟨cM, kM, wm, m1, m2, m3⟩, -⟩ := hcalls
  have M_AO : MirM s sq3 wm := ⟨cM, kM, m1, m2, m3.1⟩
  obtain ⟨kn, hkn⟩ : ∃ k, k = cln.cls := ⟨_, rfl⟩
  rw [← hkn] at V_wn
  obtain ⟨n, o, h1, h2, h3, _, L, rfl, ⟨rfl, N, -⟩, hq⟩ := rm0 l s _ hw tables_1 i0 i1 i2 i3 wn kn wm wcs wc clc s.heap s.heap.size (Nat.le_refl _) (Old.start s) S_NM E_wn V_wn M_AO S_CS hcs S_HI S_CA A_CA hcache p e ha hc hk s m _ below hf ((Spec.applies_iff_loose hf).mp happ).1 ⟨rfl, State.Warmed39.refl s, rfl⟩ trivial
  refine ⟨n, _, h1, h2, h3, hpost _ _ _ _ _ _ ⟨Cond.after_iff.mpr rfl, Cond.after_iff.mpr (eq_i res_at (Term.int_eval (1)) rfl), trivial⟩ ⟨hq.1, hq.2.1, hq.2.2.1, (hq.2.2.2.sift fun y hy => Or.inr (N y hy)).mono (by decide) (by decide)⟩⟩
theorem main_1_1 : Claimed_1_1 := comes_1 fun _ _ _ _ _ _ h hF => ⟨h.1, hF⟩
theorem main_1_2 : Claimed_1_2 := comes_1 fun _ _ _ _ _ _ h hF => ⟨h.2.1, hF⟩
end Jvm.Pilot.@@N@@
/-! witness -/
namespace Jvm.Pilot.@@N@@
open Jvm Jvm.ClassFile Sem Op Lib Jvm.Free Jvm.Stand Jvm.Pilot.@@N@@.Jvm.D
/-! MADE BY PROGRAM (witnessworld.py) out of the Statement's table words and the real class files: 29 classes; the members and pool entries that the words name. The judged class is class 1, her method 1. -/
namespace start1
open Jvm.ClassFile
def u (s : String) : CpInfo := .utf8 (stringToUtf16 s)
/-- a pool by its gaps: so many unusable entries, then the entry; so many at the end -/
def gap : Nat → List CpInfo → List CpInfo
  | 0, r => r
  | n + 1, r => .unusable :: gap n r
def poolList (es : List (Nat × CpInfo)) (last : Nat) : List CpInfo := es.foldr (fun e r => gap e.1 (e.2 :: r)) (gap last [])
def pool (es : List (Nat × CpInfo)) (last : Nat) : Array CpInfo := ⟨poolList es last⟩
def fileOf (pool : Array CpInfo) (this : Nat) (attrs : Array Attribute := #[]) (ms : Array MethodInfo := #[]) (fl : Nat := 33) (sup : Nat := 0) (ifs : Array Nat := #[]) (fds : Array FieldInfo := #[]) : ClassFile where
  minorVersion := 0
  majorVersion := 65
  constantPool := pool
  accessFlags := fl
  thisClass := this
  superClass := sup
  interfaces := ifs
  fields := fds
  methods := ms
  attributes := attrs
def plain (name : String) (sup : Option ClassId) : Class where
  name := name
  kind := .ordinary
  loader := none
  accessFlags := 33
  super := sup
  interfaces := #[]
  cf := none
  fields := #[]
  methods := #[]
  instanceTypes := #[]
  staticTypes := #[]
  resolved := #[]
  callSites := []
  init := .initialized
  statics := none
  mirror := none

def pool0 : Array CpInfo := pool [(5, u "<init>"), (0, u "()V"), (1, .class_ 10), (1, u "java/lang/Object"), (0, u "getClass"), (0, u "()Ljava/lang/Class;"), (79, u "equals"), (0, u "(Ljava/lang/Object;)Z")] 30

def k0c0 : Code := { maxStack := 0, maxLocals := 1, code := object_method_1_code, exceptionTable := #[], attributes := #[] }
def k0m0 : Method := { name := "<init>", desc := "()V", sig := { parameters := [], returnType := none }, accessFlags := 1, code := some k0c0 }
def k0m1 : Method := { name := "getClass", desc := "()Ljava/lang/Class;", sig := { parameters := [], returnType := some (.object "java/lang/Class") }, accessFlags := 273, code := none }
def k0c2 : Code := { maxStack := 2, maxLocals := 2, code := ⟨#[0x2a, 0x2b, 0xa6, 0x00, 0x07, 0x04, 0xa7, 0x00, 0x04, 0x03, 0xac]⟩, exceptionTable := #[], attributes := #[] }
def k0m2 : Method := { name := "equals", desc := "(Ljava/lang/Object;)Z", sig := { parameters := [(.object "java/lang/Object")], returnType := some .boolean }, accessFlags := 1, code := some k0c2 }
/-- java/lang/Object -/
def k0 : Class := { plain "java/lang/Object" none with
  accessFlags := 33
  interfaces := #[]
  cf := some (fileOf pool0 8 #[] #[{ accessFlags := 1, nameIndex := 5, descriptorIndex := 6, attributes := #[] }, { accessFlags := 273, nameIndex := 11, descriptorIndex := 12, attributes := #[] }, { accessFlags := 1, nameIndex := 92, descriptorIndex := 93, attributes := #[] }] 33 0 #[] #[])
  fields := #[]
  methods := #[k0m0, k0m1, k0m2]
  instanceTypes := #[]
  staticTypes := #[]
  resolved := Array.replicate 124 none
  statics := none }

def pool1 : Array CpInfo := pool [(2, .class_ 4), (0, .nameAndType 5 6), (0, u "java/lang/Object"), (0, u "<init>"), (0, u "()V"), (0, .class_ 8), (0, u "com/example/graphweave/graphweave/json/JsonObject"), (0, .methodref 7 3), (0, .methodref 11 12), (0, .class_ 13), (0, .nameAndType 14 15), (0, u "java/lang/String"), (0, u "valueOf"), (0, u "(C)Ljava/lang/String;"), (0, .methodref 17 18), (0, .class_ 19), (0, .nameAndType 14 20), (0, u "java/lang/Integer"), (0, u "(I)Ljava/lang/Integer;"), (0, .methodref 7 22), (0, .nameAndType 23 24), (0, u "put"), (0, u "(Ljava/lang/String;Ljava/lang/Object;)Ljava/lang/Object;"), (0, .methodref 7 26), (0, .nameAndType 27 6), (0, u "clear"), (0, .methodref 7 29), (0, .nameAndType 30 31), (0, u "size"), (0, u "()I"), (0, .methodref 7 33), (0, .nameAndType 34 35), (0, u "containsKey"), (0, u "(Ljava/lang/Object;)Z"), (0, .methodref 7 37), (0, .nameAndType 38 39), (0, u "get"), (0, u "(Ljava/lang/Object;)Ljava/lang/Object;"), (0, .class_ 41), (0, u "com/example/graphweave/graphweave/json/JsonObjectClearPinLaw"), (2, u "law"), (0, u "(IIII)Z")] 3

def k1m0 : Method := { name := "<init>", desc := "()V", sig := { parameters := [], returnType := none }, accessFlags := 1, code := none }
def k1c1 : Code := { maxStack := 3, maxLocals := 12, code := code, exceptionTable := #[], attributes := #[] }
def k1m1 : Method := { name := "law", desc := "(IIII)Z", sig := { parameters := [.int, .int, .int, .int], returnType := some .boolean }, accessFlags := 9, code := some k1c1 }
/-- com/example/graphweave/graphweave/json/JsonObjectClearPinLaw -/
def k1 : Class := { plain "com/example/graphweave/graphweave/json/JsonObjectClearPinLaw" (some 0) with
  accessFlags := 49
  interfaces := #[]
  cf := some (fileOf pool1 40 #[] #[{ accessFlags := 1, nameIndex := 5, descriptorIndex := 6, attributes := #[] }, { accessFlags := 9, nameIndex := 44, descriptorIndex := 45, attributes := #[] }] 49 2 #[] #[])
  fields := #[]
  methods := #[k1m0, k1m1]
  instanceTypes := #[]
  staticTypes := #[]
  resolved := Array.replicate 49 none
  statics := none }

def pool2 : Array CpInfo := pool [(2, .class_ 4), (1, u "java/util/Map"), (31, .class_ 37), (0, u "java/util/Map$Entry"), (55, .class_ 94), (0, u "java/lang/Object")] 168

/-- java/util/Map -/
def k2 : Class := { plain "java/util/Map" (some 0) with
  accessFlags := 1537
  interfaces := #[]
  cf := some (fileOf pool2 2 #[.nestMembers #[36]] #[] 1537 93 #[] #[])
  fields := #[]
  methods := #[]
  instanceTypes := #[]
  staticTypes := #[]
  resolved := Array.replicate 263 none
  statics := none }

def pool3 : Array CpInfo := pool [(1, .methodref 2 3), (0, .class_ 4), (0, .nameAndType 5 6), (0, u "java/lang/Object"), (0, u "<init>"), (0, u "()V"), (1, .class_ 10), (1, u "java/util/AbstractMap"), (42, .class_ 54), (0, u "java/util/Map"), (9, u "keySet"), (0, u "Ljava/util/Set;"), (0, .class_ 67), (0, u "java/util/AbstractMap$1"), (5, u "values"), (0, u "Ljava/util/Collection;"), (0, .class_ 76), (0, u "java/util/AbstractMap$2"), (104, .class_ 182), (0, u "java/util/AbstractMap$ViewCollection"), (0, .class_ 184), (0, u "java/util/AbstractMap$SimpleImmutableEntry"), (0, .class_ 186), (0, u "java/util/AbstractMap$SimpleEntry"), (0, .class_ 188), (0, u "java/util/AbstractMap$2$1"), (0, .class_ 190), (0, u "java/util/AbstractMap$1$1")] 5

def k3c0 : Code := { maxStack := 1, maxLocals := 1, code := jdk_71_method_1_code, exceptionTable := #[], attributes := #[] }
def k3m0 : Method := { name := "<init>", desc := "()V", sig := { parameters := [], returnType := none }, accessFlags := 4, code := some k3c0 }
/-- java/util/AbstractMap -/
def k3 : Class := { plain "java/util/AbstractMap" (some 0) with
  accessFlags := 1057
  interfaces := #[2]
  cf := some (fileOf pool3 8 #[.nestMembers #[181, 183, 185, 75, 187, 66, 189]] #[{ accessFlags := 4, nameIndex := 5, descriptorIndex := 6, attributes := #[] }] 1057 2 #[53] #[{ accessFlags := 128, nameIndex := 64, descriptorIndex := 65, attributes := #[] }, { accessFlags := 128, nameIndex := 73, descriptorIndex := 74, attributes := #[] }])
  fields := #[{ name := "keySet", type := (.object "java/util/Set"), accessFlags := 128, slot := 0, constantValue := 0 }, { name := "values", type := (.object "java/util/Collection"), accessFlags := 128, slot := 1, constantValue := 0 }]
  methods := #[k3m0]
  instanceTypes := #[(.object "java/util/Set"), (.object "java/util/Collection")]
  staticTypes := #[]
  resolved := Array.replicate 196 none
  statics := none }

def pool4 : Array CpInfo := pool [(1, .methodref 2 3), (0, .class_ 4), (0, .nameAndType 5 6), (0, u "java/util/AbstractMap"), (0, u "<init>"), (0, u "()V"), (0, .fieldref 8 9), (0, .class_ 10), (0, .nameAndType 11 12), (0, u "com/example/graphweave/graphweave/json/JsonObject"), (0, u "NO_MEMBERS"), (0, u "[Ljava/lang/Object;"), (0, .fieldref 8 14), (0, .nameAndType 15 12), (0, u "members"), (0, .fieldref 8 17), (0, .nameAndType 18 19), (0, u "size"), (0, u "I"), (0, .methodref 8 21), (0, .nameAndType 22 23), (0, u "find"), (0, u "(Ljava/lang/Object;)I"), (0, .string 25), (0, u "name"), (0, .methodref 27 28), (0, .class_ 29), (0, .nameAndType 30 31), (0, u "java/util/Objects"), (0, u "requireNonNull"), (0, u "(Ljava/lang/Object;Ljava/lang/String;)Ljava/lang/Object;"), (0, .methodref 8 33), (0, .nameAndType 34 6), (0, u "grow"), (0, .fieldref 8 36), (0, .nameAndType 37 19), (0, u "changes"), (0, .fieldref 8 39), (0, .nameAndType 40 41), (0, u "index"), (0, u "[I"), (10, .methodref 53 54), (0, .class_ 55), (0, .nameAndType 56 57), (0, u "java/util/Arrays"), (0, u "fill"), (0, u "([Ljava/lang/Object;IILjava/lang/Object;)V"), (0, .class_ 59), (0, u "com/example/graphweave/graphweave/json/JsonObject$1"), (3, .class_ 64), (0, u "com/example/graphweave/graphweave/json/JsonObject$2"), (1, .class_ 67), (0, u "com/example/graphweave/graphweave/json/JsonObject$3"), (1, .class_ 70), (0, u "java/lang/String"), (0, .methodref 72 73), (0, .class_ 74), (0, .nameAndType 75 76), (0, u "java/lang/Object"), (0, u "equals"), (0, u "(Ljava/lang/Object;)Z"), (3, u "()I"), (4, .methodref 86 87), (0, .class_ 88), (0, .nameAndType 89 90), (0, u "java/lang/Math"), (0, u "max"), (0, u "(II)I"), (0, .methodref 53 92), (0, .nameAndType 93 94), (0, u "copyOf"), (0, u "([Ljava/lang/Object;I)[Ljava/lang/Object;"), (13, u "put"), (0, u "(Ljava/lang/String;Ljava/lang/Object;)Ljava/lang/Object;"), (0, u "UNINDEXED"), (4, u "containsKey"), (1, u "get"), (0, u "(Ljava/lang/Object;)Ljava/lang/Object;"), (1, u "clear"), (16, .class_ 138), (0, u "com/example/graphweave/graphweave/json/JsonObject$Member"), (0, .class_ 140), (0, u "com/example/graphweave/graphweave/json/JsonObject$Members")] 8

def k4c0 : Code := { maxStack := 2, maxLocals := 1, code := prog_14_method_1_code, exceptionTable := #[], attributes := #[] }
def k4m0 : Method := { name := "<init>", desc := "()V", sig := { parameters := [], returnType := none }, accessFlags := 1, code := some k4c0 }
def k4c1 : Code := { maxStack := 1, maxLocals := 1, code := prog_14_method_2_code, exceptionTable := #[], attributes := #[] }
def k4m1 : Method := { name := "size", desc := "()I", sig := { parameters := [], returnType := some .int }, accessFlags := 1, code := some k4c1 }
def k4c2 : Code := { maxStack := 2, maxLocals := 2, code := prog_14_method_3_code, exceptionTable := #[], attributes := #[] }
def k4m2 : Method := { name := "containsKey", desc := "(Ljava/lang/Object;)Z", sig := { parameters := [(.object "java/lang/Object")], returnType := some .boolean }, accessFlags := 1, code := some k4c2 }
def k4c3 : Code := { maxStack := 3, maxLocals := 3, code := prog_14_method_4_code, exceptionTable := #[], attributes := #[] }
def k4m3 : Method := { name := "get", desc := "(Ljava/lang/Object;)Ljava/lang/Object;", sig := { parameters := [(.object "java/lang/Object")], returnType := some (.object "java/lang/Object") }, accessFlags := 1, code := some k4c3 }
def k4c4 : Code := { maxStack := 3, maxLocals := 5, code := prog_14_method_5_code, exceptionTable := #[], attributes := #[] }
def k4m4 : Method := { name := "put", desc := "(Ljava/lang/String;Ljava/lang/Object;)Ljava/lang/Object;", sig := { parameters := [(.object "java/lang/String"), (.object "java/lang/Object")], returnType := some (.object "java/lang/Object") }, accessFlags := 1, code := some k4c4 }
def k4c5 : Code := { maxStack := 4, maxLocals := 1, code := prog_14_method_7_code, exceptionTable := #[], attributes := #[] }
def k4m5 : Method := { name := "clear", desc := "()V", sig := { parameters := [], returnType := none }, accessFlags := 1, code := some k4c5 }
def k4c6 : Code := { maxStack := 4, maxLocals := 5, code := prog_14_method_11_code, exceptionTable := #[], attributes := #[] }
def k4m6 : Method := { name := "find", desc := "(Ljava/lang/Object;)I", sig := { parameters := [(.object "java/lang/Object")], returnType := some .int }, accessFlags := 2, code := some k4c6 }
def k4c7 : Code := { maxStack := 4, maxLocals := 2, code := prog_14_method_12_code, exceptionTable := #[], attributes := #[] }
def k4m7 : Method := { name := "grow", desc := "()V", sig := { parameters := [], returnType := none }, accessFlags := 2, code := some k4c7 }
/-- com/example/graphweave/graphweave/json/JsonObject -/
def k4 : Class := { plain "com/example/graphweave/graphweave/json/JsonObject" (some 3) with
  accessFlags := 49
  interfaces := #[]
  cf := some (fileOf pool4 8 #[.nestMembers #[137, 139, 66, 63, 58]] #[{ accessFlags := 1, nameIndex := 5, descriptorIndex := 6, attributes := #[] }, { accessFlags := 1, nameIndex := 18, descriptorIndex := 80, attributes := #[] }, { accessFlags := 1, nameIndex := 115, descriptorIndex := 76, attributes := #[] }, { accessFlags := 1, nameIndex := 117, descriptorIndex := 118, attributes := #[] }, { accessFlags := 1, nameIndex := 108, descriptorIndex := 109, attributes := #[] }, { accessFlags := 1, nameIndex := 120, descriptorIndex := 6, attributes := #[] }, { accessFlags := 2, nameIndex := 22, descriptorIndex := 23, attributes := #[] }, { accessFlags := 2, nameIndex := 34, descriptorIndex := 6, attributes := #[] }] 49 2 #[] #[{ accessFlags := 26, nameIndex := 11, descriptorIndex := 12, attributes := #[] }, { accessFlags := 26, nameIndex := 110, descriptorIndex := 19, attributes := #[] }, { accessFlags := 2, nameIndex := 15, descriptorIndex := 12, attributes := #[] }, { accessFlags := 2, nameIndex := 18, descriptorIndex := 19, attributes := #[] }, { accessFlags := 2, nameIndex := 40, descriptorIndex := 41, attributes := #[] }, { accessFlags := 2, nameIndex := 37, descriptorIndex := 19, attributes := #[] }])
  fields := #[{ name := "NO_MEMBERS", type := (.array (.object "java/lang/Object")), accessFlags := 26, slot := 0, constantValue := 0 }, { name := "UNINDEXED", type := .int, accessFlags := 26, slot := 1, constantValue := 0 }, { name := "members", type := (.array (.object "java/lang/Object")), accessFlags := 2, slot := 2, constantValue := 0 }, { name := "size", type := .int, accessFlags := 2, slot := 3, constantValue := 0 }, { name := "index", type := (.array .int), accessFlags := 2, slot := 4, constantValue := 0 }, { name := "changes", type := .int, accessFlags := 2, slot := 5, constantValue := 0 }]
  methods := #[k4m0, k4m1, k4m2, k4m3, k4m4, k4m5, k4m6, k4m7]
  instanceTypes := #[(.object "java/util/Set"), (.object "java/util/Collection"), (.array (.object "java/lang/Object")), .int, (.array .int), .int]
  staticTypes := #[(.array (.object "java/lang/Object")), .int]
  resolved := Array.replicate 149 none
  statics := some 0 }

def pool5 : Array CpInfo := pool [(1, .class_ 2), (0, u "java/io/Serializable"), (0, .class_ 4), (0, u "java/lang/Object")] 2

/-- java/io/Serializable -/
def k5 : Class := { plain "java/io/Serializable" (some 0) with
  accessFlags := 1537
  interfaces := #[]
  cf := some (fileOf pool5 1 #[] #[] 1537 3 #[] #[])
  fields := #[]
  methods := #[]
  instanceTypes := #[]
  staticTypes := #[]
  resolved := Array.replicate 7 none
  statics := none }

def pool6 : Array CpInfo := pool [(1, .class_ 2), (0, u "java/lang/Comparable"), (0, .class_ 4), (0, u "java/lang/Object")] 7

/-- java/lang/Comparable -/
def k6 : Class := { plain "java/lang/Comparable" (some 0) with
  accessFlags := 1537
  interfaces := #[]
  cf := some (fileOf pool6 1 #[] #[] 1537 3 #[] #[])
  fields := #[]
  methods := #[]
  instanceTypes := #[]
  staticTypes := #[]
  resolved := Array.replicate 12 none
  statics := none }

def pool7 : Array CpInfo := pool [(2, .class_ 4), (1, u "java/lang/CharSequence"), (42, .class_ 48), (0, u "java/lang/CharSequence$1CodePointIterator"), (10, .class_ 60), (0, u "java/lang/CharSequence$1CharIterator"), (5, .class_ 67), (0, u "java/lang/Object")] 63

/-- java/lang/CharSequence -/
def k7 : Class := { plain "java/lang/CharSequence" (some 0) with
  accessFlags := 1537
  interfaces := #[]
  cf := some (fileOf pool7 2 #[.nestMembers #[47, 59]] #[] 1537 66 #[] #[])
  fields := #[]
  methods := #[]
  instanceTypes := #[]
  staticTypes := #[]
  resolved := Array.replicate 131 none
  statics := none }

def pool8 : Array CpInfo := pool [(1, .class_ 2), (0, u "java/lang/constant/Constable"), (0, .class_ 4), (0, u "java/lang/Object")] 6

/-- java/lang/constant/Constable -/
def k8 : Class := { plain "java/lang/constant/Constable" (some 0) with
  accessFlags := 1537
  interfaces := #[]
  cf := some (fileOf pool8 1 #[] #[] 1537 3 #[] #[])
  fields := #[]
  methods := #[]
  instanceTypes := #[]
  staticTypes := #[]
  resolved := Array.replicate 11 none
  statics := none }

def pool9 : Array CpInfo := pool [(1, .class_ 2), (0, u "java/lang/constant/ConstantDesc"), (0, .class_ 4), (0, u "java/lang/Object")] 32

/-- java/lang/constant/ConstantDesc -/
def k9 : Class := { plain "java/lang/constant/ConstantDesc" (some 0) with
  accessFlags := 1537
  interfaces := #[]
  cf := some (fileOf pool9 1 #[] #[] 1537 3 #[] #[])
  fields := #[]
  methods := #[]
  instanceTypes := #[]
  staticTypes := #[]
  resolved := Array.replicate 37 none
  statics := none }

def pool10 : Array CpInfo := pool [(1, .methodref 2 3), (0, .class_ 4), (0, .nameAndType 5 6), (0, u "java/lang/Object"), (0, u "<init>"), (0, u "()V"), (2, .fieldref 10 11), (0, .class_ 12), (0, .nameAndType 13 14), (0, u "java/lang/String"), (0, u "value"), (0, u "[B"), (0, .fieldref 10 16), (0, .nameAndType 17 18), (0, u "coder"), (0, u "B"), (2, u "hash"), (0, u "I"), (2, u "hashIsZero"), (0, u "Z"), (11, .fieldref 10 39), (0, .nameAndType 40 26), (0, u "COMPACT_STRINGS"), (12, u "toBytes"), (53, .class_ 109), (1, u "java/lang/StringLatin1"), (99, .methodref 10 210), (0, .nameAndType 5 211), (0, u "([BB)V"), (157, u "(C)Z"), (171, .methodref 107 542), (0, .nameAndType 543 544), (0, u "equals"), (0, u "([B[B)Z"), (28, u "(Ljava/lang/Object;)Z"), (1, .class_ 576), (0, u "java/lang/CharSequence"), (22, u "CASE_INSENSITIVE_ORDER"), (0, u "Ljava/util/Comparator;"), (181, u "valueOf"), (0, u "(C)Ljava/lang/String;"), (231, .methodref 107 1016), (0, .nameAndType 1017 369), (0, u "canEncode"), (0, .methodref 107 1019), (0, .nameAndType 53 1020), (0, u "(C)[B"), (80, u "serialPersistentFields"), (0, u "[Ljava/io/ObjectStreamField;"), (0, .class_ 1104), (0, u "java/lang/String$CaseInsensitiveComparator"), (1, .class_ 1107), (0, u "java/io/Serializable"), (0, .class_ 1109), (0, u "java/lang/Comparable"), (0, .class_ 1111), (0, u "java/lang/constant/Constable"), (0, .class_ 1113), (0, u "java/lang/constant/ConstantDesc"), (2, u "serialVersionUID"), (0, u "J"), (3, u "REPL"), (0, u "C"), (2, u "LATIN1"), (1, u "UTF16")] 323

def k10m0 : Method := { name := "<init>", desc := "()V", sig := { parameters := [], returnType := none }, accessFlags := 1, code := none }
def k10c1 : Code := { maxStack := 2, maxLocals := 3, code := jdk_42_method_66_code, exceptionTable := #[], attributes := #[] }
def k10m1 : Method := { name := "equals", desc := "(Ljava/lang/Object;)Z", sig := { parameters := [(.object "java/lang/Object")], returnType := some .boolean }, accessFlags := 1, code := some k10c1 }
def k10c2 : Code := { maxStack := 4, maxLocals := 1, code := jdk_42_method_139_code, exceptionTable := #[], attributes := #[] }
def k10m2 : Method := { name := "valueOf", desc := "(C)Ljava/lang/String;", sig := { parameters := [.char], returnType := some (.object "java/lang/String") }, accessFlags := 9, code := some k10c2 }
def k10c3 : Code := { maxStack := 2, maxLocals := 3, code := jdk_42_method_151_code, exceptionTable := #[], attributes := #[] }
def k10m3 : Method := { name := "<init>", desc := "([BB)V", sig := { parameters := [(.array .byte), .byte], returnType := none }, accessFlags := 0, code := some k10c3 }
/-- java/lang/String -/
def k10 : Class := { plain "java/lang/String" (some 0) with
  accessFlags := 49
  interfaces := #[5, 6, 7, 8, 9]
  cf := some (fileOf pool10 10 #[.nestMembers #[1103]] #[{ accessFlags := 1, nameIndex := 5, descriptorIndex := 6, attributes := #[] }, { accessFlags := 1, nameIndex := 543, descriptorIndex := 573, attributes := #[] }, { accessFlags := 9, nameIndex := 782, descriptorIndex := 783, attributes := #[] }, { accessFlags := 0, nameIndex := 5, descriptorIndex := 211, attributes := #[] }] 49 2 #[1106, 1108, 575, 1110, 1112] #[{ accessFlags := 18, nameIndex := 13, descriptorIndex := 14, attributes := #[] }, { accessFlags := 18, nameIndex := 17, descriptorIndex := 18, attributes := #[] }, { accessFlags := 2, nameIndex := 21, descriptorIndex := 22, attributes := #[] }, { accessFlags := 2, nameIndex := 25, descriptorIndex := 26, attributes := #[] }, { accessFlags := 26, nameIndex := 1116, descriptorIndex := 1117, attributes := #[] }, { accessFlags := 24, nameIndex := 40, descriptorIndex := 26, attributes := #[] }, { accessFlags := 26, nameIndex := 1101, descriptorIndex := 1102, attributes := #[] }, { accessFlags := 26, nameIndex := 1121, descriptorIndex := 1122, attributes := #[] }, { accessFlags := 25, nameIndex := 599, descriptorIndex := 600, attributes := #[] }, { accessFlags := 24, nameIndex := 1125, descriptorIndex := 18, attributes := #[] }, { accessFlags := 24, nameIndex := 1127, descriptorIndex := 18, attributes := #[] }])
  fields := #[{ name := "value", type := (.array .byte), accessFlags := 18, slot := 0, constantValue := 0 }, { name := "coder", type := .byte, accessFlags := 18, slot := 1, constantValue := 0 }, { name := "hash", type := .int, accessFlags := 2, slot := 2, constantValue := 0 }, { name := "hashIsZero", type := .boolean, accessFlags := 2, slot := 3, constantValue := 0 }, { name := "serialVersionUID", type := .long, accessFlags := 26, slot := 0, constantValue := 0 }, { name := "COMPACT_STRINGS", type := .boolean, accessFlags := 24, slot := 1, constantValue := 0 }, { name := "serialPersistentFields", type := (.array (.object "java/io/ObjectStreamField")), accessFlags := 26, slot := 2, constantValue := 0 }, { name := "REPL", type := .char, accessFlags := 26, slot := 3, constantValue := 0 }, { name := "CASE_INSENSITIVE_ORDER", type := (.object "java/util/Comparator"), accessFlags := 25, slot := 4, constantValue := 0 }, { name := "LATIN1", type := .byte, accessFlags := 24, slot := 5, constantValue := 0 }, { name := "UTF16", type := .byte, accessFlags := 24, slot := 6, constantValue := 0 }]
  methods := #[k10m0, k10m1, k10m2, k10m3]
  instanceTypes := #[(.array .byte), .byte, .int, .boolean]
  staticTypes := #[.long, .boolean, (.array (.object "java/io/ObjectStreamField")), .char, (.object "java/util/Comparator"), .byte, .byte]
  resolved := Array.replicate 1451 none
  statics := some 1 }

def pool11 : Array CpInfo := pool [(4, .class_ 6), (1, u "java/lang/Object"), (0, u "<init>"), (0, u "()V"), (5, .class_ 16), (1, u "java/lang/StringLatin1"), (73, u "canEncode"), (14, u "(C)Z"), (15, u "$assertionsDisabled"), (0, u "Z"), (98, .class_ 223), (1, u "java/lang/StringLatin1$LinesSpliterator"), (57, u "equals"), (0, u "([B[B)Z"), (97, u "toBytes"), (1, u "(C)[B"), (7, .class_ 391), (0, u "java/lang/StringLatin1$CharsSpliterator")] 3

def k11m0 : Method := { name := "<init>", desc := "()V", sig := { parameters := [], returnType := none }, accessFlags := 0, code := none }
def k11c1 : Code := { maxStack := 2, maxLocals := 1, code := jdk_43_method_3_code, exceptionTable := #[], attributes := #[] }
def k11m1 : Method := { name := "canEncode", desc := "(C)Z", sig := { parameters := [.char], returnType := some .boolean }, accessFlags := 9, code := some k11c1 }
def k11c2 : Code := { maxStack := 3, maxLocals := 3, code := jdk_43_method_13_code, exceptionTable := #[], attributes := #[] }
def k11m2 : Method := { name := "equals", desc := "([B[B)Z", sig := { parameters := [(.array .byte), (.array .byte)], returnType := some .boolean }, accessFlags := 9, code := some k11c2 }
def k11c3 : Code := { maxStack := 4, maxLocals := 1, code := jdk_43_method_46_code, exceptionTable := #[], attributes := #[] }
def k11m3 : Method := { name := "toBytes", desc := "(C)[B", sig := { parameters := [.char], returnType := some (.array .byte) }, accessFlags := 9, code := some k11c3 }
/-- java/lang/StringLatin1 -/
def k11 : Class := { plain "java/lang/StringLatin1" (some 0) with
  accessFlags := 48
  interfaces := #[]
  cf := some (fileOf pool11 14 #[.nestMembers #[390, 221]] #[{ accessFlags := 0, nameIndex := 7, descriptorIndex := 8, attributes := #[] }, { accessFlags := 9, nameIndex := 90, descriptorIndex := 105, attributes := #[] }, { accessFlags := 9, nameIndex := 281, descriptorIndex := 282, attributes := #[] }, { accessFlags := 9, nameIndex := 380, descriptorIndex := 382, attributes := #[] }] 48 4 #[] #[{ accessFlags := 4120, nameIndex := 121, descriptorIndex := 122, attributes := #[] }])
  fields := #[{ name := "$assertionsDisabled", type := .boolean, accessFlags := 4120, slot := 0, constantValue := 0 }]
  methods := #[k11m0, k11m1, k11m2, k11m3]
  instanceTypes := #[]
  staticTypes := #[.boolean]
  resolved := Array.replicate 395 none
  statics := none }

def pool12 : Array CpInfo := pool [(1, .methodref 2 3), (0, .class_ 4), (0, .nameAndType 5 6), (0, u "java/lang/Object"), (0, u "<init>"), (0, u "()V"), (1, .class_ 10), (1, u "java/lang/Number"), (2, .class_ 14), (0, u "java/io/Serializable"), (0, u "serialVersionUID"), (0, u "J")] 20

def k12c0 : Code := { maxStack := 1, maxLocals := 1, code := jdk_18_method_1_code, exceptionTable := #[], attributes := #[] }
def k12m0 : Method := { name := "<init>", desc := "()V", sig := { parameters := [], returnType := none }, accessFlags := 1, code := some k12c0 }
/-- java/lang/Number -/
def k12 : Class := { plain "java/lang/Number" (some 0) with
  accessFlags := 1057
  interfaces := #[5]
  cf := some (fileOf pool12 8 #[] #[{ accessFlags := 1, nameIndex := 5, descriptorIndex := 6, attributes := #[] }] 1057 2 #[13] #[{ accessFlags := 26, nameIndex := 15, descriptorIndex := 16, attributes := #[] }])
  fields := #[{ name := "serialVersionUID", type := .long, accessFlags := 26, slot := 0, constantValue := 0 }]
  methods := #[k12m0]
  instanceTypes := #[]
  staticTypes := #[.long]
  resolved := Array.replicate 37 none
  statics := none }

def pool13 : Array CpInfo := pool [(1, .class_ 2), (0, u "java/lang/Integer"), (16, u "digits"), (0, u "[C"), (46, u "<init>"), (17, u "DigitOnes"), (0, u "[B"), (2, u "DigitTens"), (10, .nameAndType 67 101), (0, u "()V"), (85, u "valueOf"), (0, u "(I)Ljava/lang/Integer;"), (0, .class_ 190), (0, u "java/lang/Integer$IntegerCache"), (0, .fieldref 189 192), (0, .nameAndType 193 194), (0, u "high"), (0, u "I"), (0, .fieldref 189 196), (0, .nameAndType 197 198), (0, u "cache"), (0, u "[Ljava/lang/Integer;"), (0, .methodref 1 200), (0, .nameAndType 67 201), (0, u "(I)V"), (0, .methodref 203 100), (0, .class_ 204), (0, u "java/lang/Number"), (0, .fieldref 1 206), (0, .nameAndType 207 194), (0, u "value"), (94, u "TYPE"), (0, u "Ljava/lang/Class;"), (0, .class_ 305), (0, u "java/lang/Comparable"), (0, .class_ 307), (0, u "java/lang/constant/Constable"), (0, .class_ 309), (0, u "java/lang/constant/ConstantDesc"), (0, u "MIN_VALUE"), (1, u "MAX_VALUE"), (3, u "SIZE"), (1, u "BYTES"), (1, u "serialVersionUID"), (0, u "J")] 131

def k13c0 : Code := { maxStack := 3, maxLocals := 1, code := jdk_33_method_22_code, exceptionTable := #[], attributes := #[] }
def k13m0 : Method := { name := "valueOf", desc := "(I)Ljava/lang/Integer;", sig := { parameters := [.int], returnType := some (.object "java/lang/Integer") }, accessFlags := 9, code := some k13c0 }
def k13c1 : Code := { maxStack := 2, maxLocals := 2, code := jdk_33_method_23_code, exceptionTable := #[], attributes := #[] }
def k13m1 : Method := { name := "<init>", desc := "(I)V", sig := { parameters := [.int], returnType := none }, accessFlags := 1, code := some k13c1 }
/-- java/lang/Integer -/
def k13 : Class := { plain "java/lang/Integer" (some 12) with
  accessFlags := 49
  interfaces := #[6, 8, 9]
  cf := some (fileOf pool13 1 #[.nestMembers #[189]] #[{ accessFlags := 9, nameIndex := 187, descriptorIndex := 188, attributes := #[] }, { accessFlags := 1, nameIndex := 67, descriptorIndex := 201, attributes := #[] }] 49 203 #[304, 306, 308] #[{ accessFlags := 25, nameIndex := 310, descriptorIndex := 194, attributes := #[] }, { accessFlags := 25, nameIndex := 312, descriptorIndex := 194, attributes := #[] }, { accessFlags := 25, nameIndex := 302, descriptorIndex := 303, attributes := #[] }, { accessFlags := 24, nameIndex := 19, descriptorIndex := 20, attributes := #[] }, { accessFlags := 24, nameIndex := 89, descriptorIndex := 86, attributes := #[] }, { accessFlags := 24, nameIndex := 85, descriptorIndex := 86, attributes := #[] }, { accessFlags := 18, nameIndex := 207, descriptorIndex := 194, attributes := #[] }, { accessFlags := 25, nameIndex := 316, descriptorIndex := 194, attributes := #[] }, { accessFlags := 25, nameIndex := 318, descriptorIndex := 194, attributes := #[] }, { accessFlags := 26, nameIndex := 320, descriptorIndex := 321, attributes := #[] }])
  fields := #[{ name := "MIN_VALUE", type := .int, accessFlags := 25, slot := 0, constantValue := 0 }, { name := "MAX_VALUE", type := .int, accessFlags := 25, slot := 1, constantValue := 0 }, { name := "TYPE", type := (.object "java/lang/Class"), accessFlags := 25, slot := 2, constantValue := 0 }, { name := "digits", type := (.array .char), accessFlags := 24, slot := 3, constantValue := 0 }, { name := "DigitTens", type := (.array .byte), accessFlags := 24, slot := 4, constantValue := 0 }, { name := "DigitOnes", type := (.array .byte), accessFlags := 24, slot := 5, constantValue := 0 }, { name := "value", type := .int, accessFlags := 18, slot := 0, constantValue := 0 }, { name := "SIZE", type := .int, accessFlags := 25, slot := 6, constantValue := 0 }, { name := "BYTES", type := .int, accessFlags := 25, slot := 7, constantValue := 0 }, { name := "serialVersionUID", type := .long, accessFlags := 26, slot := 8, constantValue := 0 }]
  methods := #[k13m0, k13m1]
  instanceTypes := #[.int]
  staticTypes := #[.int, .int, (.object "java/lang/Class"), (.array .char), (.array .byte), (.array .byte), .int, .int, .long]
  resolved := Array.replicate 453 none
  statics := none }

def pool14 : Array CpInfo := pool [(2, .class_ 4), (1, u "java/lang/Object"), (0, u "<init>"), (0, u "()V"), (0, .class_ 8), (0, u "java/lang/Integer"), (7, .class_ 18), (1, u "java/lang/Integer$IntegerCache"), (0, u "$assertionsDisabled"), (0, u "Z"), (26, u "high"), (0, u "I"), (8, u "archivedCache"), (0, u "[Ljava/lang/Integer;"), (12, u "cache"), (0, u "low")] 27

def k14m0 : Method := { name := "<init>", desc := "()V", sig := { parameters := [], returnType := none }, accessFlags := 2, code := none }
/-- java/lang/Integer$IntegerCache -/
def k14 : Class := { plain "java/lang/Integer$IntegerCache" (some 0) with
  accessFlags := 48
  interfaces := #[]
  cf := some (fileOf pool14 16 #[.nestHost 7] #[{ accessFlags := 2, nameIndex := 5, descriptorIndex := 6, attributes := #[] }] 48 2 #[] #[{ accessFlags := 24, nameIndex := 72, descriptorIndex := 48, attributes := #[] }, { accessFlags := 24, nameIndex := 47, descriptorIndex := 48, attributes := #[] }, { accessFlags := 24, nameIndex := 71, descriptorIndex := 58, attributes := #[] }, { accessFlags := 8, nameIndex := 57, descriptorIndex := 58, attributes := #[] }, { accessFlags := 4120, nameIndex := 19, descriptorIndex := 20, attributes := #[] }])
  fields := #[{ name := "low", type := .int, accessFlags := 24, slot := 0, constantValue := 0 }, { name := "high", type := .int, accessFlags := 24, slot := 1, constantValue := 0 }, { name := "cache", type := (.array (.object "java/lang/Integer")), accessFlags := 24, slot := 2, constantValue := 0 }, { name := "archivedCache", type := (.array (.object "java/lang/Integer")), accessFlags := 8, slot := 3, constantValue := 0 }, { name := "$assertionsDisabled", type := .boolean, accessFlags := 4120, slot := 4, constantValue := 0 }]
  methods := #[k14m0]
  instanceTypes := #[]
  staticTypes := #[.int, .int, (.array (.object "java/lang/Integer")), (.array (.object "java/lang/Integer")), .boolean]
  resolved := Array.replicate 100 none
  statics := some 2 }

def pool15 : Array CpInfo := pool [(2, .class_ 4), (1, u "java/lang/Object"), (0, u "<init>"), (0, u "()V"), (35, .class_ 44), (1, u "java/util/Objects"), (0, u "requireNonNull"), (48, u "(Ljava/lang/Object;Ljava/lang/String;)Ljava/lang/Object;")] 89

def k15m0 : Method := { name := "<init>", desc := "()V", sig := { parameters := [], returnType := none }, accessFlags := 2, code := none }
def k15c1 : Code := { maxStack := 3, maxLocals := 2, code := jdk_31_method_11_code, exceptionTable := #[], attributes := #[] }
def k15m1 : Method := { name := "requireNonNull", desc := "(Ljava/lang/Object;Ljava/lang/String;)Ljava/lang/Object;", sig := { parameters := [(.object "java/lang/Object"), (.object "java/lang/String")], returnType := some (.object "java/lang/Object") }, accessFlags := 9, code := some k15c1 }
/-- java/util/Objects -/
def k15 : Class := { plain "java/util/Objects" (some 0) with
  accessFlags := 49
  interfaces := #[]
  cf := some (fileOf pool15 42 #[] #[{ accessFlags := 2, nameIndex := 5, descriptorIndex := 6, attributes := #[] }, { accessFlags := 9, nameIndex := 45, descriptorIndex := 94, attributes := #[] }] 49 2 #[] #[])
  fields := #[]
  methods := #[k15m0, k15m1]
  instanceTypes := #[]
  staticTypes := #[]
  resolved := Array.replicate 184 none
  statics := none }

def pool16 : Array CpInfo := pool [(1, .class_ 2), (0, u "java/lang/Math"), (1, .class_ 6), (1, u "java/lang/Object"), (0, u "<init>"), (0, u "()V"), (89, .class_ 100), (1, u "java/lang/Math$RandomNumberGeneratorHolder"), (71, u "negativeZeroFloatBits"), (0, u "J"), (2, u "negativeZeroDoubleBits"), (21, u "max"), (2, u "min"), (43, u "$assertionsDisabled"), (0, u "Z"), (88, u "(II)I"), (2, u "twoToTheDoubleScaleDown"), (0, u "D"), (4, u "twoToTheDoubleScaleUp"), (9, u "E"), (3, u "PI"), (2, u "TAU"), (2, u "DEGREES_TO_RADIANS"), (0, u "RADIANS_TO_DEGREES")] 94

def k16m0 : Method := { name := "<init>", desc := "()V", sig := { parameters := [], returnType := none }, accessFlags := 2, code := none }
def k16c1 : Code := { maxStack := 2, maxLocals := 2, code := jdk_29_method_65_code, exceptionTable := #[], attributes := #[] }
def k16m1 : Method := { name := "max", desc := "(II)I", sig := { parameters := [.int, .int], returnType := some .int }, accessFlags := 9, code := some k16c1 }
def k16c2 : Code := { maxStack := 2, maxLocals := 2, code := jdk_29_method_69_code, exceptionTable := #[], attributes := #[] }
def k16m2 : Method := { name := "min", desc := "(II)I", sig := { parameters := [.int, .int], returnType := some .int }, accessFlags := 9, code := some k16c2 }
/-- java/lang/Math -/
def k16 : Class := { plain "java/lang/Math" (some 0) with
  accessFlags := 49
  interfaces := #[]
  cf := some (fileOf pool16 1 #[.nestMembers #[98]] #[{ accessFlags := 2, nameIndex := 7, descriptorIndex := 8, attributes := #[] }, { accessFlags := 9, nameIndex := 198, descriptorIndex := 335, attributes := #[] }, { accessFlags := 9, nameIndex := 201, descriptorIndex := 335, attributes := #[] }] 49 4 #[] #[{ accessFlags := 25, nameIndex := 354, descriptorIndex := 339, attributes := #[] }, { accessFlags := 25, nameIndex := 358, descriptorIndex := 339, attributes := #[] }, { accessFlags := 25, nameIndex := 361, descriptorIndex := 339, attributes := #[] }, { accessFlags := 26, nameIndex := 364, descriptorIndex := 339, attributes := #[] }, { accessFlags := 26, nameIndex := 365, descriptorIndex := 339, attributes := #[] }, { accessFlags := 26, nameIndex := 172, descriptorIndex := 173, attributes := #[] }, { accessFlags := 26, nameIndex := 176, descriptorIndex := 173, attributes := #[] }, { accessFlags := 8, nameIndex := 344, descriptorIndex := 339, attributes := #[] }, { accessFlags := 8, nameIndex := 338, descriptorIndex := 339, attributes := #[] }, { accessFlags := 4120, nameIndex := 245, descriptorIndex := 246, attributes := #[] }])
  fields := #[{ name := "E", type := .double, accessFlags := 25, slot := 0, constantValue := 0 }, { name := "PI", type := .double, accessFlags := 25, slot := 1, constantValue := 0 }, { name := "TAU", type := .double, accessFlags := 25, slot := 2, constantValue := 0 }, { name := "DEGREES_TO_RADIANS", type := .double, accessFlags := 26, slot := 3, constantValue := 0 }, { name := "RADIANS_TO_DEGREES", type := .double, accessFlags := 26, slot := 4, constantValue := 0 }, { name := "negativeZeroFloatBits", type := .long, accessFlags := 26, slot := 5, constantValue := 0 }, { name := "negativeZeroDoubleBits", type := .long, accessFlags := 26, slot := 6, constantValue := 0 }, { name := "twoToTheDoubleScaleUp", type := .double, accessFlags := 8, slot := 7, constantValue := 0 }, { name := "twoToTheDoubleScaleDown", type := .double, accessFlags := 8, slot := 8, constantValue := 0 }, { name := "$assertionsDisabled", type := .boolean, accessFlags := 4120, slot := 9, constantValue := 0 }]
  methods := #[k16m0, k16m1, k16m2]
  instanceTypes := #[]
  staticTypes := #[.double, .double, .double, .double, .double, .long, .long, .double, .double, .boolean]
  resolved := Array.replicate 460 none
  statics := none }

def pool17 : Array CpInfo := pool [(2, .class_ 4), (1, u "java/lang/Object"), (0, u "<init>"), (0, u "()V"), (6, .methodref 14 15), (0, .class_ 16), (0, .nameAndType 17 18), (0, u "java/util/Arrays"), (0, u "rangeCheck"), (0, u "(III)V"), (55, .class_ 76), (1, u "java/util/Arrays$NaturalOrder"), (9, .methodref 2 87), (0, .nameAndType 88 89), (0, u "getClass"), (0, u "()Ljava/lang/Class;"), (20, .class_ 111), (0, u "[Ljava/lang/Object;"), (1, .class_ 115), (1, u "java/util/Arrays$LegacyMergeSort"), (1, u "Z"), (32, .methodref 151 152), (0, .class_ 153), (0, .nameAndType 154 155), (0, u "java/lang/System"), (0, u "arraycopy"), (0, u "(Ljava/lang/Object;ILjava/lang/Object;II)V"), (144, .methodref 14 301), (0, .nameAndType 302 303), (0, u "copyOf"), (0, u "([Ljava/lang/Object;ILjava/lang/Class;)[Ljava/lang/Object;"), (0, .methodref 305 306), (0, .class_ 307), (0, .nameAndType 308 309), (0, u "java/lang/Math"), (0, u "min"), (0, u "(II)I"), (65, .class_ 376), (0, u "java/util/Arrays$ArrayList"), (68, u "$assertionsDisabled"), (269, u "MIN_ARRAY_SORT_GRAN"), (0, u "I"), (2, u "INSERTIONSORT_THRESHOLD"), (120, u "fill"), (18, u "([Ljava/lang/Object;IILjava/lang/Object;)V"), (0, u "([Ljava/lang/Object;I)[Ljava/lang/Object;"), (114, .class_ 976), (0, u "java/util/Arrays$ArrayItr")] 52

def k17m0 : Method := { name := "<init>", desc := "()V", sig := { parameters := [], returnType := none }, accessFlags := 2, code := none }
def k17c1 : Code := { maxStack := 4, maxLocals := 3, code := jdk_65_method_30_code, exceptionTable := #[], attributes := #[] }
def k17m1 : Method := { name := "rangeCheck", desc := "(III)V", sig := { parameters := [.int, .int, .int], returnType := none }, accessFlags := 8, code := some k17c1 }
def k17c2 : Code := { maxStack := 3, maxLocals := 5, code := jdk_65_method_118_code, exceptionTable := #[], attributes := #[] }
def k17m2 : Method := { name := "fill", desc := "([Ljava/lang/Object;IILjava/lang/Object;)V", sig := { parameters := [(.array (.object "java/lang/Object")), .int, .int, (.object "java/lang/Object")], returnType := none }, accessFlags := 9, code := some k17c2 }
def k17c3 : Code := { maxStack := 3, maxLocals := 2, code := jdk_65_method_119_code, exceptionTable := #[], attributes := #[] }
def k17m3 : Method := { name := "copyOf", desc := "([Ljava/lang/Object;I)[Ljava/lang/Object;", sig := { parameters := [(.array (.object "java/lang/Object")), .int], returnType := some (.array (.object "java/lang/Object")) }, accessFlags := 9, code := some k17c3 }
def k17c4 : Code := { maxStack := 6, maxLocals := 4, code := jdk_65_method_120_code, exceptionTable := #[], attributes := #[] }
def k17m4 : Method := { name := "copyOf", desc := "([Ljava/lang/Object;ILjava/lang/Class;)[Ljava/lang/Object;", sig := { parameters := [(.array (.object "java/lang/Object")), .int, (.object "java/lang/Class")], returnType := some (.array (.object "java/lang/Object")) }, accessFlags := 9, code := some k17c4 }
/-- java/util/Arrays -/
def k17 : Class := { plain "java/util/Arrays" (some 0) with
  accessFlags := 49
  interfaces := #[]
  cf := some (fileOf pool17 14 #[.nestMembers #[975, 375, 113, 74]] #[{ accessFlags := 2, nameIndex := 5, descriptorIndex := 6, attributes := #[] }, { accessFlags := 8, nameIndex := 17, descriptorIndex := 18, attributes := #[] }, { accessFlags := 9, nameIndex := 840, descriptorIndex := 859, attributes := #[] }, { accessFlags := 9, nameIndex := 302, descriptorIndex := 860, attributes := #[] }, { accessFlags := 9, nameIndex := 302, descriptorIndex := 303, attributes := #[] }] 49 2 #[] #[{ accessFlags := 26, nameIndex := 715, descriptorIndex := 716, attributes := #[] }, { accessFlags := 26, nameIndex := 719, descriptorIndex := 716, attributes := #[] }, { accessFlags := 4120, nameIndex := 445, descriptorIndex := 117, attributes := #[] }])
  fields := #[{ name := "MIN_ARRAY_SORT_GRAN", type := .int, accessFlags := 26, slot := 0, constantValue := 0 }, { name := "INSERTIONSORT_THRESHOLD", type := .int, accessFlags := 26, slot := 1, constantValue := 0 }, { name := "$assertionsDisabled", type := .boolean, accessFlags := 4120, slot := 2, constantValue := 0 }]
  methods := #[k17m0, k17m1, k17m2, k17m3, k17m4]
  instanceTypes := #[]
  staticTypes := #[.int, .int, .boolean]
  resolved := Array.replicate 1029 none
  statics := none }

def pool18 : Array CpInfo := pool [(2, .class_ 4), (1, u "java/lang/Object"), (0, u "<init>"), (0, u "()V"), (1, .class_ 10), (1, u "java/lang/System"), (0, u "allowSecurityManager"), (0, u "I"), (16, u "cons"), (0, u "Ljava/io/Console;"), (77, .class_ 110), (1, u "java/lang/System$CallersHolder"), (43, u "initialErrStream"), (0, u "Ljava/io/PrintStream;"), (19, u "security"), (0, u "Ljava/lang/SecurityManager;"), (31, .class_ 209), (0, u "java/lang/System$1"), (7, u "props"), (0, u "Ljava/util/Properties;"), (2, u "lineSeparator"), (0, u "Ljava/lang/String;"), (96, .class_ 321), (1, u "java/lang/System$LoggerFinder"), (5, .class_ 328), (0, u "java/lang/System$Logger"), (67, u "err"), (2, u "out"), (91, u "notSupportedJnuEncoding"), (15, u "in"), (17, u "initialIn"), (0, u "Ljava/io/InputStream;"), (35, u "bootLayer"), (0, u "Ljava/lang/ModuleLayer;"), (99, .class_ 664), (0, u "java/lang/System$2"), (9, u "NEVER"), (2, u "MAYBE"), (49, u "arraycopy"), (0, u "(Ljava/lang/Object;ILjava/lang/Object;II)V"), (72, .class_ 802), (0, u "java/lang/System$Logger$Level")] 31

def k18m0 : Method := { name := "<init>", desc := "()V", sig := { parameters := [], returnType := none }, accessFlags := 2, code := none }
def k18m1 : Method := { name := "arraycopy", desc := "(Ljava/lang/Object;ILjava/lang/Object;II)V", sig := { parameters := [(.object "java/lang/Object"), .int, (.object "java/lang/Object"), .int, .int], returnType := none }, accessFlags := 265, code := none }
/-- java/lang/System -/
def k18 : Class := { plain "java/lang/System" (some 0) with
  accessFlags := 49
  interfaces := #[]
  cf := some (fileOf pool18 8 #[.nestMembers #[319, 327, 801, 108, 663, 208]] #[{ accessFlags := 2, nameIndex := 5, descriptorIndex := 6, attributes := #[] }, { accessFlags := 265, nameIndex := 727, descriptorIndex := 728, attributes := #[] }] 49 2 #[] #[{ accessFlags := 25, nameIndex := 507, descriptorIndex := 526, attributes := #[] }, { accessFlags := 25, nameIndex := 399, descriptorIndex := 155, attributes := #[] }, { accessFlags := 25, nameIndex := 396, descriptorIndex := 155, attributes := #[] }, { accessFlags := 10, nameIndex := 525, descriptorIndex := 526, attributes := #[] }, { accessFlags := 26, nameIndex := 674, descriptorIndex := 12, attributes := #[] }, { accessFlags := 26, nameIndex := 677, descriptorIndex := 12, attributes := #[] }, { accessFlags := 10, nameIndex := 11, descriptorIndex := 12, attributes := #[] }, { accessFlags := 74, nameIndex := 175, descriptorIndex := 176, attributes := #[] }, { accessFlags := 10, nameIndex := 491, descriptorIndex := 222, attributes := #[] }, { accessFlags := 74, nameIndex := 29, descriptorIndex := 30, attributes := #[] }, { accessFlags := 74, nameIndex := 154, descriptorIndex := 155, attributes := #[] }, { accessFlags := 10, nameIndex := 217, descriptorIndex := 218, attributes := #[] }, { accessFlags := 10, nameIndex := 221, descriptorIndex := 222, attributes := #[] }, { accessFlags := 8, nameIndex := 562, descriptorIndex := 563, attributes := #[] }])
  fields := #[{ name := "in", type := (.object "java/io/InputStream"), accessFlags := 25, slot := 0, constantValue := 0 }, { name := "out", type := (.object "java/io/PrintStream"), accessFlags := 25, slot := 1, constantValue := 0 }, { name := "err", type := (.object "java/io/PrintStream"), accessFlags := 25, slot := 2, constantValue := 0 }, { name := "initialIn", type := (.object "java/io/InputStream"), accessFlags := 10, slot := 3, constantValue := 0 }, { name := "NEVER", type := .int, accessFlags := 26, slot := 4, constantValue := 0 }, { name := "MAYBE", type := .int, accessFlags := 26, slot := 5, constantValue := 0 }, { name := "allowSecurityManager", type := .int, accessFlags := 10, slot := 6, constantValue := 0 }, { name := "security", type := (.object "java/lang/SecurityManager"), accessFlags := 74, slot := 7, constantValue := 0 }, { name := "notSupportedJnuEncoding", type := (.object "java/lang/String"), accessFlags := 10, slot := 8, constantValue := 0 }, { name := "cons", type := (.object "java/io/Console"), accessFlags := 74, slot := 9, constantValue := 0 }, { name := "initialErrStream", type := (.object "java/io/PrintStream"), accessFlags := 74, slot := 10, constantValue := 0 }, { name := "props", type := (.object "java/util/Properties"), accessFlags := 10, slot := 11, constantValue := 0 }, { name := "lineSeparator", type := (.object "java/lang/String"), accessFlags := 10, slot := 12, constantValue := 0 }, { name := "bootLayer", type := (.object "java/lang/ModuleLayer"), accessFlags := 8, slot := 13, constantValue := 0 }]
  methods := #[k18m0, k18m1]
  instanceTypes := #[]
  staticTypes := #[(.object "java/io/InputStream"), (.object "java/io/PrintStream"), (.object "java/io/PrintStream"), (.object "java/io/InputStream"), .int, .int, .int, (.object "java/lang/SecurityManager"), (.object "java/lang/String"), (.object "java/io/Console"), (.object "java/io/PrintStream"), (.object "java/util/Properties"), (.object "java/lang/String"), (.object "java/lang/ModuleLayer")]
  resolved := Array.replicate 834 none
  statics := none }

def pool19 : Array CpInfo := pool [(2, .class_ 4), (1, u "java/lang/Object"), (0, u "<init>"), (0, u "()V"), (17, .class_ 26), (1, u "jdk/internal/util/Preconditions"), (28, .class_ 56), (0, u "jdk/internal/util/Preconditions$4"), (57, .class_ 115), (0, u "jdk/internal/util/Preconditions$1"), (7, u "SIOOBE_FORMATTER"), (0, u "Ljava/util/function/BiFunction;"), (0, .class_ 126), (0, u "jdk/internal/util/Preconditions$2"), (3, u "AIOOBE_FORMATTER"), (0, .class_ 132), (0, u "jdk/internal/util/Preconditions$3"), (3, u "IOOBE_FORMATTER")] 57

def k19m0 : Method := { name := "<init>", desc := "()V", sig := { parameters := [], returnType := none }, accessFlags := 1, code := none }
/-- jdk/internal/util/Preconditions -/
def k19 : Class := { plain "jdk/internal/util/Preconditions" (some 0) with
  accessFlags := 33
  interfaces := #[]
  cf := some (fileOf pool19 24 #[.nestMembers #[55, 131, 125, 114]] #[{ accessFlags := 1, nameIndex := 5, descriptorIndex := 6, attributes := #[] }] 33 2 #[] #[{ accessFlags := 25, nameIndex := 123, descriptorIndex := 124, attributes := #[] }, { accessFlags := 25, nameIndex := 130, descriptorIndex := 124, attributes := #[] }, { accessFlags := 25, nameIndex := 136, descriptorIndex := 124, attributes := #[] }])
  fields := #[{ name := "SIOOBE_FORMATTER", type := (.object "java/util/function/BiFunction"), accessFlags := 25, slot := 0, constantValue := 0 }, { name := "AIOOBE_FORMATTER", type := (.object "java/util/function/BiFunction"), accessFlags := 25, slot := 1, constantValue := 0 }, { name := "IOOBE_FORMATTER", type := (.object "java/util/function/BiFunction"), accessFlags := 25, slot := 2, constantValue := 0 }]
  methods := #[k19m0]
  instanceTypes := #[]
  staticTypes := #[(.object "java/util/function/BiFunction"), (.object "java/util/function/BiFunction"), (.object "java/util/function/BiFunction")]
  resolved := Array.replicate 194 none
  statics := some 3 }

def pool20 : Array CpInfo := pool [(9, u "<init>"), (6, .class_ 18), (1, u "java/lang/Object"), (0, u "()V"), (1, .class_ 23), (1, u "jdk/internal/util/ArraysSupport"), (0, u "LOG2_ARRAY_LONG_INDEX_SCALE"), (0, u "I"), (2, u "U"), (0, u "Ljdk/internal/misc/Unsafe;"), (8, u "BIG_ENDIAN"), (0, u "Z"), (8, u "LOG2_BYTE_BIT_SIZE"), (4, u "LOG2_ARRAY_INT_INDEX_SCALE"), (54, u "JLA"), (0, u "Ljdk/internal/access/JavaLangAccess;"), (11, u "LOG2_ARRAY_BOOLEAN_INDEX_SCALE"), (9, u "LOG2_ARRAY_BYTE_INDEX_SCALE"), (5, u "LOG2_ARRAY_CHAR_INDEX_SCALE"), (5, u "LOG2_ARRAY_SHORT_INDEX_SCALE"), (18, u "LOG2_ARRAY_FLOAT_INDEX_SCALE"), (24, u "LOG2_ARRAY_DOUBLE_INDEX_SCALE"), (89, u "T_BOOLEAN"), (2, u "T_CHAR"), (1, u "T_FLOAT"), (1, u "T_DOUBLE"), (1, u "T_BYTE"), (1, u "T_SHORT"), (1, u "T_INT"), (1, u "T_LONG"), (1, u "SOFT_MAX_ARRAY_LENGTH")] 83

def k20m0 : Method := { name := "<init>", desc := "()V", sig := { parameters := [], returnType := none }, accessFlags := 2, code := none }
/-- jdk/internal/util/ArraysSupport -/
def k20 : Class := { plain "jdk/internal/util/ArraysSupport" (some 0) with
  accessFlags := 33
  interfaces := #[]
  cf := some (fileOf pool20 21 #[] #[{ accessFlags := 2, nameIndex := 9, descriptorIndex := 19, attributes := #[] }] 33 16 #[] #[{ accessFlags := 24, nameIndex := 28, descriptorIndex := 29, attributes := #[] }, { accessFlags := 26, nameIndex := 38, descriptorIndex := 39, attributes := #[] }, { accessFlags := 25, nameIndex := 121, descriptorIndex := 25, attributes := #[] }, { accessFlags := 25, nameIndex := 131, descriptorIndex := 25, attributes := #[] }, { accessFlags := 25, nameIndex := 137, descriptorIndex := 25, attributes := #[] }, { accessFlags := 25, nameIndex := 143, descriptorIndex := 25, attributes := #[] }, { accessFlags := 25, nameIndex := 53, descriptorIndex := 25, attributes := #[] }, { accessFlags := 25, nameIndex := 24, descriptorIndex := 25, attributes := #[] }, { accessFlags := 25, nameIndex := 162, descriptorIndex := 25, attributes := #[] }, { accessFlags := 25, nameIndex := 187, descriptorIndex := 25, attributes := #[] }, { accessFlags := 26, nameIndex := 48, descriptorIndex := 25, attributes := #[] }, { accessFlags := 25, nameIndex := 277, descriptorIndex := 25, attributes := #[] }, { accessFlags := 25, nameIndex := 280, descriptorIndex := 25, attributes := #[] }, { accessFlags := 25, nameIndex := 282, descriptorIndex := 25, attributes := #[] }, { accessFlags := 25, nameIndex := 284, descriptorIndex := 25, attributes := #[] }, { accessFlags := 25, nameIndex := 286, descriptorIndex := 25, attributes := #[] }, { accessFlags := 25, nameIndex := 288, descriptorIndex := 25, attributes := #[] }, { accessFlags := 25, nameIndex := 290, descriptorIndex := 25, attributes := #[] }, { accessFlags := 25, nameIndex := 292, descriptorIndex := 25, attributes := #[] }, { accessFlags := 26, nameIndex := 108, descriptorIndex := 109, attributes := #[] }, { accessFlags := 25, nameIndex := 294, descriptorIndex := 25, attributes := #[] }])
  fields := #[{ name := "U", type := (.object "jdk/internal/misc/Unsafe"), accessFlags := 24, slot := 0, constantValue := 0 }, { name := "BIG_ENDIAN", type := .boolean, accessFlags := 26, slot := 1, constantValue := 0 }, { name := "LOG2_ARRAY_BOOLEAN_INDEX_SCALE", type := .int, accessFlags := 25, slot := 2, constantValue := 0 }, { name := "LOG2_ARRAY_BYTE_INDEX_SCALE", type := .int, accessFlags := 25, slot := 3, constantValue := 0 }, { name := "LOG2_ARRAY_CHAR_INDEX_SCALE", type := .int, accessFlags := 25, slot := 4, constantValue := 0 }, { name := "LOG2_ARRAY_SHORT_INDEX_SCALE", type := .int, accessFlags := 25, slot := 5, constantValue := 0 }, { name := "LOG2_ARRAY_INT_INDEX_SCALE", type := .int, accessFlags := 25, slot := 6, constantValue := 0 }, { name := "LOG2_ARRAY_LONG_INDEX_SCALE", type := .int, accessFlags := 25, slot := 7, constantValue := 0 }, { name := "LOG2_ARRAY_FLOAT_INDEX_SCALE", type := .int, accessFlags := 25, slot := 8, constantValue := 0 }, { name := "LOG2_ARRAY_DOUBLE_INDEX_SCALE", type := .int, accessFlags := 25, slot := 9, constantValue := 0 }, { name := "LOG2_BYTE_BIT_SIZE", type := .int, accessFlags := 26, slot := 10, constantValue := 0 }, { name := "T_BOOLEAN", type := .int, accessFlags := 25, slot := 11, constantValue := 0 }, { name := "T_CHAR", type := .int, accessFlags := 25, slot := 12, constantValue := 0 }, { name := "T_FLOAT", type := .int, accessFlags := 25, slot := 13, constantValue := 0 }, { name := "T_DOUBLE", type := .int, accessFlags := 25, slot := 14, constantValue := 0 }, { name := "T_BYTE", type := .int, accessFlags := 25, slot := 15, constantValue := 0 }, { name := "T_SHORT", type := .int, accessFlags := 25, slot := 16, constantValue := 0 }, { name := "T_INT", type := .int, accessFlags := 25, slot := 17, constantValue := 0 }, { name := "T_LONG", type := .int, accessFlags := 25, slot := 18, constantValue := 0 }, { name := "JLA", type := (.object "jdk/internal/access/JavaLangAccess"), accessFlags := 26, slot := 19, constantValue := 0 }, { name := "SOFT_MAX_ARRAY_LENGTH", type := .int, accessFlags := 25, slot := 20, constantValue := 0 }]
  methods := #[k20m0]
  instanceTypes := #[]
  staticTypes := #[(.object "jdk/internal/misc/Unsafe"), .boolean, .int, .int, .int, .int, .int, .int, .int, .int, .int, .int, .int, .int, .int, .int, .int, .int, .int, (.object "jdk/internal/access/JavaLangAccess"), .int]
  resolved := Array.replicate 378 none
  statics := none }

def pool21 : Array CpInfo := pool [(1, u "java/lang/Class"), (0, .class_ 1), (0, u "java/lang/Object"), (0, .class_ 3)] 3

/-- java/lang/Class -/
def k21 : Class := { plain "java/lang/Class" (some 0) with
  accessFlags := 49
  interfaces := #[]
  cf := some (fileOf pool21 2 #[] #[] 49 4 #[] #[])
  fields := #[]
  methods := #[]
  instanceTypes := #[]
  staticTypes := #[]
  resolved := Array.replicate 8 none
  statics := none }

def pool22 : Array CpInfo := pool [(1, u "java/lang/Cloneable"), (0, .class_ 1), (0, u "java/lang/Object"), (0, .class_ 3)] 3

/-- java/lang/Cloneable -/
def k22 : Class := { plain "java/lang/Cloneable" (some 0) with
  accessFlags := 1537
  interfaces := #[]
  cf := some (fileOf pool22 2 #[] #[] 1537 4 #[] #[])
  fields := #[]
  methods := #[]
  instanceTypes := #[]
  staticTypes := #[]
  resolved := Array.replicate 8 none
  statics := none }

/-- the primitive byte -/
def k23 : Class := { plain "byte" none with kind := .primitive 'B', accessFlags := 0x411 }
/-- [B -/
def k24 : Class := { plain "[B" (some 0) with kind := .array 23 .byte, interfaces := #[22, 5], accessFlags := 1041 }

/-- the primitive int -/
def k25 : Class := { plain "int" none with kind := .primitive 'I', accessFlags := 0x411 }
/-- [I -/
def k26 : Class := { plain "[I" (some 0) with kind := .array 25 .int, interfaces := #[22, 5], accessFlags := 1041 }

/-- [Ljava/lang/Integer; -/
def k27 : Class := { plain "[Ljava/lang/Integer;" (some 0) with kind := .array 13 (.object "java/lang/Integer"), interfaces := #[22, 5], accessFlags := 1041 }

/-- [Ljava/lang/Object; -/
def k28 : Class := { plain "[Ljava/lang/Object;" (some 0) with kind := .array 0 (.object "java/lang/Object"), interfaces := #[22, 5], accessFlags := 1041, mirror := some 4 }

def heap : Heap := #[{ cls := 4, slots := #[.ref 5, .int 0], vm := .statics 4 },
  { cls := 10, slots := #[.long 0, .int 1, .null, .int 0, .null, .int 0, .int 0], vm := .statics 10 },
  { cls := 14, slots := #[.int 0, .int 127, .ref 6, .null, .int 0], vm := .statics 14 },
  { cls := 19, slots := #[.null, .null, .null], vm := .statics 19 },
  { cls := 21, slots := #[], vm := .mirror 28 },
  { cls := 28, slots := #[], vm := .none },
  { cls := 27, slots := #[.ref 7, .ref 8, .ref 9, .ref 10, .ref 11, .ref 12, .ref 13, .ref 14, .ref 15, .ref 16, .ref 17, .ref 18, .ref 19, .ref 20, .ref 21, .ref 22, .ref 23, .ref 24, .ref 25, .ref 26, .ref 27, .ref 28, .ref 29, .ref 30, .ref 31, .ref 32, .ref 33, .ref 34, .ref 35, .ref 36, .ref 37, .ref 38, .ref 39, .ref 40, .ref 41, .ref 42, .ref 43, .ref 44, .ref 45, .ref 46, .ref 47, .ref 48, .ref 49, .ref 50, .ref 51, .ref 52, .ref 53, .ref 54, .ref 55, .ref 56, .ref 57, .ref 58, .ref 59, .ref 60, .ref 61, .ref 62, .ref 63, .ref 64, .ref 65, .ref 66, .ref 67, .ref 68, .ref 69, .ref 70, .ref 71, .ref 72, .ref 73, .ref 74, .ref 75, .ref 76, .ref 77, .ref 78, .ref 79, .ref 80, .ref 81, .ref 82, .ref 83, .ref 84, .ref 85, .ref 86, .ref 87, .ref 88, .ref 89, .ref 90, .ref 91, .ref 92, .ref 93, .ref 94, .ref 95, .ref 96, .ref 97, .ref 98, .ref 99, .ref 100, .ref 101, .ref 102, .ref 103, .ref 104, .ref 105, .ref 106, .ref 107, .ref 108, .ref 109, .ref 110, .ref 111, .ref 112, .ref 113, .ref 114, .ref 115, .ref 116, .ref 117, .ref 118, .ref 119, .ref 120, .ref 121, .ref 122, .ref 123, .ref 124, .ref 125, .ref 126, .ref 127, .ref 128, .ref 129, .ref 130, .ref 131, .ref 132, .ref 133, .ref 134, .ref 135, .ref 136, .ref 137, .ref 138, .ref 139, .ref 140, .ref 141, .ref 142, .ref 143, .ref 144, .ref 145, .ref 146, .ref 147, .ref 148, .ref 149, .ref 150, .ref 151, .ref 152, .ref 153, .ref 154, .ref 155, .ref 156, .ref 157, .ref 158, .ref 159, .ref 160, .ref 161, .ref 162, .ref 163, .ref 164, .ref 165, .ref 166, .ref 167, .ref 168, .ref 169, .ref 170, .ref 171, .ref 172, .ref 173, .ref 174, .ref 175, .ref 176, .ref 177, .ref 178, .ref 179, .ref 180, .ref 181, .ref 182, .ref 183, .ref 184, .ref 185, .ref 186, .ref 187, .ref 188, .ref 189, .ref 190, .ref 191, .ref 192, .ref 193, .ref 194, .ref 195, .ref 196, .ref 197, .ref 198, .ref 199, .ref 200, .ref 201, .ref 202, .ref 203, .ref 204, .ref 205, .ref 206, .ref 207, .ref 208, .ref 209, .ref 210, .ref 211, .ref 212, .ref 213, .ref 214, .ref 215, .ref 216, .ref 217, .ref 218, .ref 219, .ref 220, .ref 221, .ref 222, .ref 223, .ref 224, .ref 225, .ref 226, .ref 227, .ref 228, .ref 229, .ref 230, .ref 231, .ref 232, .ref 233, .ref 234, .ref 235, .ref 236, .ref 237, .ref 238, .ref 239, .ref 240, .ref 241, .ref 242, .ref 243, .ref 244, .ref 245, .ref 246, .ref 247, .ref 248, .ref 249, .ref 250, .ref 251, .ref 252, .ref 253, .ref 254, .ref 255, .ref 256, .ref 257, .ref 258, .ref 259, .ref 260, .ref 261, .ref 262], vm := .none },
  { cls := 13, slots := #[.int (-128)], vm := .none },
  { cls := 13, slots := #[.int (-127)], vm := .none },
  { cls := 13, slots := #[.int (-126)], vm := .none },
  { cls := 13, slots := #[.int (-125)], vm := .none },
  { cls := 13, slots := #[.int (-124)], vm := .none },
  { cls := 13, slots := #[.int (-123)], vm := .none },
  { cls := 13, slots := #[.int (-122)], vm := .none },
  { cls := 13, slots := #[.int (-121)], vm := .none },
  { cls := 13, slots := #[.int (-120)], vm := .none },
  { cls := 13, slots := #[.int (-119)], vm := .none },
  { cls := 13, slots := #[.int (-118)], vm := .none },
  { cls := 13, slots := #[.int (-117)], vm := .none },
  { cls := 13, slots := #[.int (-116)], vm := .none },
  { cls := 13, slots := #[.int (-115)], vm := .none },
  { cls := 13, slots := #[.int (-114)], vm := .none },
  { cls := 13, slots := #[.int (-113)], vm := .none },
  { cls := 13, slots := #[.int (-112)], vm := .none },
  { cls := 13, slots := #[.int (-111)], vm := .none },
  { cls := 13, slots := #[.int (-110)], vm := .none },
  { cls := 13, slots := #[.int (-109)], vm := .none },
  { cls := 13, slots := #[.int (-108)], vm := .none },
  { cls := 13, slots := #[.int (-107)], vm := .none },
  { cls := 13, slots := #[.int (-106)], vm := .none },
  { cls := 13, slots := #[.int (-105)], vm := .none },
  { cls := 13, slots := #[.int (-104)], vm := .none },
  { cls := 13, slots := #[.int (-103)], vm := .none },
  { cls := 13, slots := #[.int (-102)], vm := .none },
  { cls := 13, slots := #[.int (-101)], vm := .none },
  { cls := 13, slots := #[.int (-100)], vm := .none },
  { cls := 13, slots := #[.int (-99)], vm := .none },
  { cls := 13, slots := #[.int (-98)], vm := .none },
  { cls := 13, slots := #[.int (-97)], vm := .none },
  { cls := 13, slots := #[.int (-96)], vm := .none },
  { cls := 13, slots := #[.int (-95)], vm := .none },
  { cls := 13, slots := #[.int (-94)], vm := .none },
  { cls := 13, slots := #[.int (-93)], vm := .none },
  { cls := 13, slots := #[.int (-92)], vm := .none },
  { cls := 13, slots := #[.int (-91)], vm := .none },
  { cls := 13, slots := #[.int (-90)], vm := .none },
  { cls := 13, slots := #[.int (-89)], vm := .none },
  { cls := 13, slots := #[.int (-88)], vm := .none },
  { cls := 13, slots := #[.int (-87)], vm := .none },
  { cls := 13, slots := #[.int (-86)], vm := .none },
  { cls := 13, slots := #[.int (-85)], vm := .none },
  { cls := 13, slots := #[.int (-84)], vm := .none },
  { cls := 13, slots := #[.int (-83)], vm := .none },
  { cls := 13, slots := #[.int (-82)], vm := .none },
  { cls := 13, slots := #[.int (-81)], vm := .none },
  { cls := 13, slots := #[.int (-80)], vm := .none },
  { cls := 13, slots := #[.int (-79)], vm := .none },
  { cls := 13, slots := #[.int (-78)], vm := .none },
  { cls := 13, slots := #[.int (-77)], vm := .none },
  { cls := 13, slots := #[.int (-76)], vm := .none },
  { cls := 13, slots := #[.int (-75)], vm := .none },
  { cls := 13, slots := #[.int (-74)], vm := .none },
  { cls := 13, slots := #[.int (-73)], vm := .none },
  { cls := 13, slots := #[.int (-72)], vm := .none },
  { cls := 13, slots := #[.int (-71)], vm := .none },
  { cls := 13, slots := #[.int (-70)], vm := .none },
  { cls := 13, slots := #[.int (-69)], vm := .none },
  { cls := 13, slots := #[.int (-68)], vm := .none },
  { cls := 13, slots := #[.int (-67)], vm := .none },
  { cls := 13, slots := #[.int (-66)], vm := .none },
  { cls := 13, slots := #[.int (-65)], vm := .none },
  { cls := 13, slots := #[.int (-64)], vm := .none },
  { cls := 13, slots := #[.int (-63)], vm := .none },
  { cls := 13, slots := #[.int (-62)], vm := .none },
  { cls := 13, slots := #[.int (-61)], vm := .none },
  { cls := 13, slots := #[.int (-60)], vm := .none },
  { cls := 13, slots := #[.int (-59)], vm := .none },
  { cls := 13, slots := #[.int (-58)], vm := .none },
  { cls := 13, slots := #[.int (-57)], vm := .none },
  { cls := 13, slots := #[.int (-56)], vm := .none },
  { cls := 13, slots := #[.int (-55)], vm := .none },
  { cls := 13, slots := #[.int (-54)], vm := .none },
  { cls := 13, slots := #[.int (-53)], vm := .none },
  { cls := 13, slots := #[.int (-52)], vm := .none },
  { cls := 13, slots := #[.int (-51)], vm := .none },
  { cls := 13, slots := #[.int (-50)], vm := .none },
  { cls := 13, slots := #[.int (-49)], vm := .none },
  { cls := 13, slots := #[.int (-48)], vm := .none },
  { cls := 13, slots := #[.int (-47)], vm := .none },
  { cls := 13, slots := #[.int (-46)], vm := .none },
  { cls := 13, slots := #[.int (-45)], vm := .none },
  { cls := 13, slots := #[.int (-44)], vm := .none },
  { cls := 13, slots := #[.int (-43)], vm := .none },
  { cls := 13, slots := #[.int (-42)], vm := .none },
  { cls := 13, slots := #[.int (-41)], vm := .none },
  { cls := 13, slots := #[.int (-40)], vm := .none },
  { cls := 13, slots := #[.int (-39)], vm := .none },
  { cls := 13, slots := #[.int (-38)], vm := .none },
  { cls := 13, slots := #[.int (-37)], vm := .none },
  { cls := 13, slots := #[.int (-36)], vm := .none },
  { cls := 13, slots := #[.int (-35)], vm := .none },
  { cls := 13, slots := #[.int (-34)], vm := .none },
  { cls := 13, slots := #[.int (-33)], vm := .none },
  { cls := 13, slots := #[.int (-32)], vm := .none },
  { cls := 13, slots := #[.int (-31)], vm := .none },
  { cls := 13, slots := #[.int (-30)], vm := .none },
  { cls := 13, slots := #[.int (-29)], vm := .none },
  { cls := 13, slots := #[.int (-28)], vm := .none },
  { cls := 13, slots := #[.int (-27)], vm := .none },
  { cls := 13, slots := #[.int (-26)], vm := .none },
  { cls := 13, slots := #[.int (-25)], vm := .none },
  { cls := 13, slots := #[.int (-24)], vm := .none },
  { cls := 13, slots := #[.int (-23)], vm := .none },
  { cls := 13, slots := #[.int (-22)], vm := .none },
  { cls := 13, slots := #[.int (-21)], vm := .none },
  { cls := 13, slots := #[.int (-20)], vm := .none },
  { cls := 13, slots := #[.int (-19)], vm := .none },
  { cls := 13, slots := #[.int (-18)], vm := .none },
  { cls := 13, slots := #[.int (-17)], vm := .none },
  { cls := 13, slots := #[.int (-16)], vm := .none },
  { cls := 13, slots := #[.int (-15)], vm := .none },
  { cls := 13, slots := #[.int (-14)], vm := .none },
  { cls := 13, slots := #[.int (-13)], vm := .none },
  { cls := 13, slots := #[.int (-12)], vm := .none },
  { cls := 13, slots := #[.int (-11)], vm := .none },
  { cls := 13, slots := #[.int (-10)], vm := .none },
  { cls := 13, slots := #[.int (-9)], vm := .none },
  { cls := 13, slots := #[.int (-8)], vm := .none },
  { cls := 13, slots := #[.int (-7)], vm := .none },
  { cls := 13, slots := #[.int (-6)], vm := .none },
  { cls := 13, slots := #[.int (-5)], vm := .none },
  { cls := 13, slots := #[.int (-4)], vm := .none },
  { cls := 13, slots := #[.int (-3)], vm := .none },
  { cls := 13, slots := #[.int (-2)], vm := .none },
  { cls := 13, slots := #[.int (-1)], vm := .none },
  { cls := 13, slots := #[.int 0], vm := .none },
  { cls := 13, slots := #[.int 1], vm := .none },
  { cls := 13, slots := #[.int 2], vm := .none },
  { cls := 13, slots := #[.int 3], vm := .none },
  { cls := 13, slots := #[.int 4], vm := .none },
  { cls := 13, slots := #[.int 5], vm := .none },
  { cls := 13, slots := #[.int 6], vm := .none },
  { cls := 13, slots := #[.int 7], vm := .none },
  { cls := 13, slots := #[.int 8], vm := .none },
  { cls := 13, slots := #[.int 9], vm := .none },
  { cls := 13, slots := #[.int 10], vm := .none },
  { cls := 13, slots := #[.int 11], vm := .none },
  { cls := 13, slots := #[.int 12], vm := .none },
  { cls := 13, slots := #[.int 13], vm := .none },
  { cls := 13, slots := #[.int 14], vm := .none },
  { cls := 13, slots := #[.int 15], vm := .none },
  { cls := 13, slots := #[.int 16], vm := .none },
  { cls := 13, slots := #[.int 17], vm := .none },
  { cls := 13, slots := #[.int 18], vm := .none },
  { cls := 13, slots := #[.int 19], vm := .none },
  { cls := 13, slots := #[.int 20], vm := .none },
  { cls := 13, slots := #[.int 21], vm := .none },
  { cls := 13, slots := #[.int 22], vm := .none },
  { cls := 13, slots := #[.int 23], vm := .none },
  { cls := 13, slots := #[.int 24], vm := .none },
  { cls := 13, slots := #[.int 25], vm := .none },
  { cls := 13, slots := #[.int 26], vm := .none },
  { cls := 13, slots := #[.int 27], vm := .none },
  { cls := 13, slots := #[.int 28], vm := .none },
  { cls := 13, slots := #[.int 29], vm := .none },
  { cls := 13, slots := #[.int 30], vm := .none },
  { cls := 13, slots := #[.int 31], vm := .none },
  { cls := 13, slots := #[.int 32], vm := .none },
  { cls := 13, slots := #[.int 33], vm := .none },
  { cls := 13, slots := #[.int 34], vm := .none },
  { cls := 13, slots := #[.int 35], vm := .none },
  { cls := 13, slots := #[.int 36], vm := .none },
  { cls := 13, slots := #[.int 37], vm := .none },
  { cls := 13, slots := #[.int 38], vm := .none },
  { cls := 13, slots := #[.int 39], vm := .none },
  { cls := 13, slots := #[.int 40], vm := .none },
  { cls := 13, slots := #[.int 41], vm := .none },
  { cls := 13, slots := #[.int 42], vm := .none },
  { cls := 13, slots := #[.int 43], vm := .none },
  { cls := 13, slots := #[.int 44], vm := .none },
  { cls := 13, slots := #[.int 45], vm := .none },
  { cls := 13, slots := #[.int 46], vm := .none },
  { cls := 13, slots := #[.int 47], vm := .none },
  { cls := 13, slots := #[.int 48], vm := .none },
  { cls := 13, slots := #[.int 49], vm := .none },
  { cls := 13, slots := #[.int 50], vm := .none },
  { cls := 13, slots := #[.int 51], vm := .none },
  { cls := 13, slots := #[.int 52], vm := .none },
  { cls := 13, slots := #[.int 53], vm := .none },
  { cls := 13, slots := #[.int 54], vm := .none },
  { cls := 13, slots := #[.int 55], vm := .none },
  { cls := 13, slots := #[.int 56], vm := .none },
  { cls := 13, slots := #[.int 57], vm := .none },
  { cls := 13, slots := #[.int 58], vm := .none },
  { cls := 13, slots := #[.int 59], vm := .none },
  { cls := 13, slots := #[.int 60], vm := .none },
  { cls := 13, slots := #[.int 61], vm := .none },
  { cls := 13, slots := #[.int 62], vm := .none },
  { cls := 13, slots := #[.int 63], vm := .none },
  { cls := 13, slots := #[.int 64], vm := .none },
  { cls := 13, slots := #[.int 65], vm := .none },
  { cls := 13, slots := #[.int 66], vm := .none },
  { cls := 13, slots := #[.int 67], vm := .none },
  { cls := 13, slots := #[.int 68], vm := .none },
  { cls := 13, slots := #[.int 69], vm := .none },
  { cls := 13, slots := #[.int 70], vm := .none },
  { cls := 13, slots := #[.int 71], vm := .none },
  { cls := 13, slots := #[.int 72], vm := .none },
  { cls := 13, slots := #[.int 73], vm := .none },
  { cls := 13, slots := #[.int 74], vm := .none },
  { cls := 13, slots := #[.int 75], vm := .none },
  { cls := 13, slots := #[.int 76], vm := .none },
  { cls := 13, slots := #[.int 77], vm := .none },
  { cls := 13, slots := #[.int 78], vm := .none },
  { cls := 13, slots := #[.int 79], vm := .none },
  { cls := 13, slots := #[.int 80], vm := .none },
  { cls := 13, slots := #[.int 81], vm := .none },
  { cls := 13, slots := #[.int 82], vm := .none },
  { cls := 13, slots := #[.int 83], vm := .none },
  { cls := 13, slots := #[.int 84], vm := .none },
  { cls := 13, slots := #[.int 85], vm := .none },
  { cls := 13, slots := #[.int 86], vm := .none },
  { cls := 13, slots := #[.int 87], vm := .none },
  { cls := 13, slots := #[.int 88], vm := .none },
  { cls := 13, slots := #[.int 89], vm := .none },
  { cls := 13, slots := #[.int 90], vm := .none },
  { cls := 13, slots := #[.int 91], vm := .none },
  { cls := 13, slots := #[.int 92], vm := .none },
  { cls := 13, slots := #[.int 93], vm := .none },
  { cls := 13, slots := #[.int 94], vm := .none },
  { cls := 13, slots := #[.int 95], vm := .none },
  { cls := 13, slots := #[.int 96], vm := .none },
  { cls := 13, slots := #[.int 97], vm := .none },
  { cls := 13, slots := #[.int 98], vm := .none },
  { cls := 13, slots := #[.int 99], vm := .none },
  { cls := 13, slots := #[.int 100], vm := .none },
  { cls := 13, slots := #[.int 101], vm := .none },
  { cls := 13, slots := #[.int 102], vm := .none },
  { cls := 13, slots := #[.int 103], vm := .none },
  { cls := 13, slots := #[.int 104], vm := .none },
  { cls := 13, slots := #[.int 105], vm := .none },
  { cls := 13, slots := #[.int 106], vm := .none },
  { cls := 13, slots := #[.int 107], vm := .none },
  { cls := 13, slots := #[.int 108], vm := .none },
  { cls := 13, slots := #[.int 109], vm := .none },
  { cls := 13, slots := #[.int 110], vm := .none },
  { cls := 13, slots := #[.int 111], vm := .none },
  { cls := 13, slots := #[.int 112], vm := .none },
  { cls := 13, slots := #[.int 113], vm := .none },
  { cls := 13, slots := #[.int 114], vm := .none },
  { cls := 13, slots := #[.int 115], vm := .none },
  { cls := 13, slots := #[.int 116], vm := .none },
  { cls := 13, slots := #[.int 117], vm := .none },
  { cls := 13, slots := #[.int 118], vm := .none },
  { cls := 13, slots := #[.int 119], vm := .none },
  { cls := 13, slots := #[.int 120], vm := .none },
  { cls := 13, slots := #[.int 121], vm := .none },
  { cls := 13, slots := #[.int 122], vm := .none },
  { cls := 13, slots := #[.int 123], vm := .none },
  { cls := 13, slots := #[.int 124], vm := .none },
  { cls := 13, slots := #[.int 125], vm := .none },
  { cls := 13, slots := #[.int 126], vm := .none },
  { cls := 13, slots := #[.int 127], vm := .none }]
def classes : Array Class := #[k0, k1, k2, k3, k4, k5, k6, k7, k8, k9, k10, k11, k12, k13, k14, k15, k16, k17, k18, k19, k20, k21, k22, k23, k24, k25, k26, k27, k28]
def interned : List (Array UInt16 × Addr) := []
def slotsUsed : Nat := 529
def theMethod : MethodId := ⟨1, 1⟩
def args0 : Array Value := #[.int 5, .int 5, .int 5, .int 5]
def aboutOver (below : List Frame) : State where
  vm := { classes := classes, interned := interned.toArray }
  heap := heap
  slotsUsed := slotsUsed
  threads := #[{ frames := .invoking theMethod args0 :: below }]
def below0 : List Frame := [.native { method := ⟨0, 0⟩, args := #[] }]
def about1 : State := aboutOver below0
def p0 : Program := .bare "" "" ""
def e0 : Env := launch0.env 0 0 0
theorem w_frames : about1.frames = Frame.invoking theMethod args0 :: below0 := rfl
set_option maxRecDepth 65536 in
theorem w_args : argsFit about1.vm theMethod args0 = true := by decide +kernel
set_option maxRecDepth 65536 in
theorem w_heap : heapFits about1 = true := by decide +kernel
set_option maxRecDepth 65536 in
theorem w_runnable : about1.curStatus? = some .runnable := by decide +kernel
set_option maxRecDepth 65536 in
theorem w_alone : about1.alone = true := by decide +kernel
set_option maxRecDepth 65536 in
theorem w_named : about1.methodNamed? x = some theMethod := by decide +kernel
set_option maxRecDepth 65536 in
theorem w_hears : about1.hears theMethod below0 = true := by decide +kernel
set_option maxRecDepth 65536 in
theorem w_ripe : about1.ripe theMethod args0 below0 = true := by decide +kernel
theorem w_running : about1.status = .running := rfl
set_option maxRecDepth 65536 in
theorem w_room : about1.hasRoom e0.platform room_1 = true :=
  launch0.hasRoom_least _ room_1 (by decide +kernel) (by decide +kernel) (by decide +kernel) (by decide +kernel) (by decide +kernel) (by decide +kernel)
theorem allAtoms_all (ts : List Jvm.Cond) (a : Array Jvm.Value) (st : Jvm.State) : (allAtoms ts).before a st = ts.all (fun c => c.before a st) := by
  induction ts with
  | nil => rfl
  | cons c t ih =>
    show (Jvm.Cond.and c (allAtoms t)).before a st = _
    rw [Jvm.Cond.before_and, ih, List.all_cons]
def words1 : List Jvm.Cond := Jvm.Cond.code x code maxLocals ret :: tables_1
/-- a 'code' word, met by the world's own term for the bytes: nothing is compared byte by byte -/
theorem code_word {y : MethodName} {bytes : ByteArray} {mx : Nat} {rt : Option FieldType} {a : Array Value} {s : State} {m : MethodId} {meth : Method} {c : Code} (h1 : s.methodNamed? y = some m) (h2 : s.vm.method? m = some meth) (h3 : meth.code = some c) (h4 : c.code = bytes)
    (h5 : (c.maxLocals == mx && c.exceptionTable.isEmpty && decide (c.maxStack ≤ mostOperands) && decide (meth.sig.returnType = rt) && !meth.locks && decide (parseMethodDescriptor y.desc = some meth.sig)) = true) : (Jvm.Cond.code y bytes mx rt).before a s = true := by
  simp only [Bool.and_eq_true, beq_iff_eq, Bool.not_eq_true', decide_eq_true_eq] at h5
  obtain ⟨⟨⟨⟨⟨g1, g2⟩, g3⟩, g4⟩, g5⟩, g6⟩ := h5
  simp [Cond.before, Cond.holds, Cond.value, h1, h2, h3, h4, g1, g2, g3, g4, g5, g6]
def isCode : Jvm.Cond → Bool
  | .code _ _ _ _ => true
  | _ => false
theorem all_split {L : List Jvm.Cond} {P : Jvm.Cond → Bool} (h1 : L.all (fun c => isCode c || P c) = true) (h2 : ∀ c ∈ L.filter isCode, P c = true) : L.all P = true := by
  refine List.all_eq_true.mpr fun c hc => ?_
  have h := List.all_eq_true.mp h1 c hc
  rcases Bool.eq_false_or_eq_true (isCode c) with hi | hi
  · exact h2 c (List.mem_filter.mpr ⟨hc, hi⟩)
  · simpa [hi] using h
set_option maxRecDepth 65536 in
theorem w_c0 : (Jvm.Cond.code x code maxLocals ret).before args0 about1 = true := code_word (m := ⟨1, 1⟩) (meth := k1m1) (c := k1c1) (by decide +kernel) rfl rfl rfl (by decide +kernel)
set_option maxRecDepth 65536 in
theorem w_c1 : (Jvm.Cond.code ({ cls := "com/example/graphweave/graphweave/json/JsonObject", name := "<init>", desc := "()V" } : Jvm.MethodName) prog_14_method_1_code (1 : Nat) (Option.none : Option Jvm.ClassFile.FieldType)).before args0 about1 = true := code_word (m := ⟨4, 0⟩) (meth := k4m0) (c := k4c0) (by decide +kernel) rfl rfl rfl (by decide +kernel)
set_option maxRecDepth 65536 in
theorem w_c2 : (Jvm.Cond.code ({ cls := "java/util/AbstractMap", name := "<init>", desc := "()V" } : Jvm.MethodName) jdk_71_method_1_code (1 : Nat) (Option.none : Option Jvm.ClassFile.FieldType)).before args0 about1 = true := code_word (m := ⟨3, 0⟩) (meth := k3m0) (c := k3c0) (by decide +kernel) rfl rfl rfl (by decide +kernel)
set_option maxRecDepth 65536 in
theorem w_c3 : (Jvm.Cond.code ({ cls := "java/lang/Object", name := "<init>", desc := "()V" } : Jvm.MethodName) object_method_1_code (1 : Nat) (Option.none : Option Jvm.ClassFile.FieldType)).before args0 about1 = true := code_word (m := ⟨0, 0⟩) (meth := k0m0) (c := k0c0) (by decide +kernel) rfl rfl rfl (by decide +kernel)
set_option maxRecDepth 65536 in
theorem w_c4 : (Jvm.Cond.code ({ cls := "java/lang/String", name := "valueOf", desc := "(C)Ljava/lang/String;" } : Jvm.MethodName) jdk_42_method_139_code (1 : Nat) (Option.some (Jvm.ClassFile.FieldType.object "java/lang/String"))).before args0 about1 = true := code_word (m := ⟨10, 2⟩) (meth := k10m2) (c := k10c2) (by decide +kernel) rfl rfl rfl (by decide +kernel)
set_option maxRecDepth 65536 in
theorem w_c5 : (Jvm.Cond.code ({ cls := "java/lang/StringLatin1", name := "canEncode", desc := "(C)Z" } : Jvm.MethodName) jdk_43_method_3_code (1 : Nat) (Option.some Jvm.ClassFile.FieldType.boolean)).before args0 about1 = true := code_word (m := ⟨11, 1⟩) (meth := k11m1) (c := k11c1) (by decide +kernel) rfl rfl rfl (by decide +kernel)
set_option maxRecDepth 65536 in
theorem w_c6 : (Jvm.Cond.code ({ cls := "java/lang/StringLatin1", name := "toBytes", desc := "(C)[B" } : Jvm.MethodName) jdk_43_method_46_code (1 : Nat) (Option.some (Jvm.ClassFile.FieldType.array Jvm.ClassFile.FieldType.byte))).before args0 about1 = true := code_word (m := ⟨11, 3⟩) (meth := k11m3) (c := k11c3) (by decide +kernel) rfl rfl rfl (by decide +kernel)
set_option maxRecDepth 65536 in
theorem w_c7 : (Jvm.Cond.code ({ cls := "java/lang/String", name := "<init>", desc := "([BB)V" } : Jvm.MethodName) jdk_42_method_151_code (3 : Nat) (Option.none : Option Jvm.ClassFile.FieldType)).before args0 about1 = true := code_word (m := ⟨10, 3⟩) (meth := k10m3) (c := k10c3) (by decide +kernel) rfl rfl rfl (by decide +kernel)
set_option maxRecDepth 65536 in
theorem w_c8 : (Jvm.Cond.code ({ cls := "java/lang/Integer", name := "valueOf", desc := "(I)Ljava/lang/Integer;" } : Jvm.MethodName) jdk_33_method_22_code (1 : Nat) (Option.some (Jvm.ClassFile.FieldType.object "java/lang/Integer"))).before args0 about1 = true := code_word (m := ⟨13, 0⟩) (meth := k13m0) (c := k13c0) (by decide +kernel) rfl rfl rfl (by decide +kernel)
set_option maxRecDepth 65536 in
theorem w_c9 : (Jvm.Cond.code ({ cls := "com/example/graphweave/graphweave/json/JsonObject", name := "put", desc := "(Ljava/lang/String;Ljava/lang/Object;)Ljava/lang/Object;" } : Jvm.MethodName) prog_14_method_5_code (5 : Nat) (Option.some (Jvm.ClassFile.FieldType.object "java/lang/Object"))).before args0 about1 = true := code_word (m := ⟨4, 4⟩) (meth := k4m4) (c := k4c4) (by decide +kernel) rfl rfl rfl (by decide +kernel)
set_option maxRecDepth 65536 in
theorem w_c10 : (Jvm.Cond.code ({ cls := "java/util/Objects", name := "requireNonNull", desc := "(Ljava/lang/Object;Ljava/lang/String;)Ljava/lang/Object;" } : Jvm.MethodName) jdk_31_method_11_code (2 : Nat) (Option.some (Jvm.ClassFile.FieldType.object "java/lang/Object"))).before args0 about1 = true := code_word (m := ⟨15, 1⟩) (meth := k15m1) (c := k15c1) (by decide +kernel) rfl rfl rfl (by decide +kernel)
set_option maxRecDepth 65536 in
theorem w_c11 : (Jvm.Cond.code ({ cls := "com/example/graphweave/graphweave/json/JsonObject", name := "find", desc := "(Ljava/lang/Object;)I" } : Jvm.MethodName) prog_14_method_11_code (5 : Nat) (Option.some Jvm.ClassFile.FieldType.int)).before args0 about1 = true := code_word (m := ⟨4, 6⟩) (meth := k4m6) (c := k4c6) (by decide +kernel) rfl rfl rfl (by decide +kernel)
set_option maxRecDepth 65536 in
theorem w_c12 : (Jvm.Cond.code ({ cls := "com/example/graphweave/graphweave/json/JsonObject", name := "grow", desc := "()V" } : Jvm.MethodName) prog_14_method_12_code (2 : Nat) (Option.none : Option Jvm.ClassFile.FieldType)).before args0 about1 = true := code_word (m := ⟨4, 7⟩) (meth := k4m7) (c := k4c7) (by decide +kernel) rfl rfl rfl (by decide +kernel)
set_option maxRecDepth 65536 in
theorem w_c13 : (Jvm.Cond.code ({ cls := "java/lang/Math", name := "max", desc := "(II)I" } : Jvm.MethodName) jdk_29_method_65_code (2 : Nat) (Option.some Jvm.ClassFile.FieldType.int)).before args0 about1 = true := code_word (m := ⟨16, 1⟩) (meth := k16m1) (c := k16c1) (by decide +kernel) rfl rfl rfl (by decide +kernel)
set_option maxRecDepth 65536 in
theorem w_c14 : (Jvm.Cond.code ({ cls := "java/util/Arrays", name := "copyOf", desc := "([Ljava/lang/Object;I)[Ljava/lang/Object;" } : Jvm.MethodName) jdk_65_method_119_code (2 : Nat) (Option.some (Jvm.ClassFile.FieldType.array (Jvm.ClassFile.FieldType.object "java/lang/Object")))).before args0 about1 = true := code_word (m := ⟨17, 3⟩) (meth := k17m3) (c := k17c3) (by decide +kernel) rfl rfl rfl (by decide +kernel)
set_option maxRecDepth 65536 in
theorem w_c15 : (Jvm.Cond.code ({ cls := "java/util/Arrays", name := "copyOf", desc := "([Ljava/lang/Object;ILjava/lang/Class;)[Ljava/lang/Object;" } : Jvm.MethodName) jdk_65_method_120_code (4 : Nat) (Option.some (Jvm.ClassFile.FieldType.array (Jvm.ClassFile.FieldType.object "java/lang/Object")))).before args0 about1 = true := code_word (m := ⟨17, 4⟩) (meth := k17m4) (c := k17c4) (by decide +kernel) rfl rfl rfl (by decide +kernel)
set_option maxRecDepth 65536 in
theorem w_c16 : (Jvm.Cond.code ({ cls := "java/lang/Math", name := "min", desc := "(II)I" } : Jvm.MethodName) jdk_29_method_69_code (2 : Nat) (Option.some Jvm.ClassFile.FieldType.int)).before args0 about1 = true := code_word (m := ⟨16, 2⟩) (meth := k16m2) (c := k16c2) (by decide +kernel) rfl rfl rfl (by decide +kernel)
set_option maxRecDepth 65536 in
theorem w_c17 : (Jvm.Cond.code ({ cls := "com/example/graphweave/graphweave/json/JsonObject", name := "clear", desc := "()V" } : Jvm.MethodName) prog_14_method_7_code (1 : Nat) (Option.none : Option Jvm.ClassFile.FieldType)).before args0 about1 = true := code_word (m := ⟨4, 5⟩) (meth := k4m5) (c := k4c5) (by decide +kernel) rfl rfl rfl (by decide +kernel)
set_option maxRecDepth 65536 in
theorem w_c18 : (Jvm.Cond.code ({ cls := "java/util/Arrays", name := "fill", desc := "([Ljava/lang/Object;IILjava/lang/Object;)V" } : Jvm.MethodName) jdk_65_method_118_code (5 : Nat) (Option.none : Option Jvm.ClassFile.FieldType)).before args0 about1 = true := code_word (m := ⟨17, 2⟩) (meth := k17m2) (c := k17c2) (by decide +kernel) rfl rfl rfl (by decide +kernel)
set_option maxRecDepth 65536 in
theorem w_c19 : (Jvm.Cond.code ({ cls := "java/util/Arrays", name := "rangeCheck", desc := "(III)V" } : Jvm.MethodName) jdk_65_method_30_code (3 : Nat) (Option.none : Option Jvm.ClassFile.FieldType)).before args0 about1 = true := code_word (m := ⟨17, 1⟩) (meth := k17m1) (c := k17c1) (by decide +kernel) rfl rfl rfl (by decide +kernel)
set_option maxRecDepth 65536 in
theorem w_c20 : (Jvm.Cond.code ({ cls := "com/example/graphweave/graphweave/json/JsonObject", name := "size", desc := "()I" } : Jvm.MethodName) prog_14_method_2_code (1 : Nat) (Option.some Jvm.ClassFile.FieldType.int)).before args0 about1 = true := code_word (m := ⟨4, 1⟩) (meth := k4m1) (c := k4c1) (by decide +kernel) rfl rfl rfl (by decide +kernel)
set_option maxRecDepth 65536 in
theorem w_c21 : (Jvm.Cond.code ({ cls := "com/example/graphweave/graphweave/json/JsonObject", name := "containsKey", desc := "(Ljava/lang/Object;)Z" } : Jvm.MethodName) prog_14_method_3_code (2 : Nat) (Option.some Jvm.ClassFile.FieldType.boolean)).before args0 about1 = true := code_word (m := ⟨4, 2⟩) (meth := k4m2) (c := k4c2) (by decide +kernel) rfl rfl rfl (by decide +kernel)
set_option maxRecDepth 65536 in
theorem w_c22 : (Jvm.Cond.code ({ cls := "com/example/graphweave/graphweave/json/JsonObject", name := "get", desc := "(Ljava/lang/Object;)Ljava/lang/Object;" } : Jvm.MethodName) prog_14_method_4_code (3 : Nat) (Option.some (Jvm.ClassFile.FieldType.object "java/lang/Object"))).before args0 about1 = true := code_word (m := ⟨4, 3⟩) (meth := k4m3) (c := k4c3) (by decide +kernel) rfl rfl rfl (by decide +kernel)
set_option maxRecDepth 65536 in
theorem w_c23 : (Jvm.Cond.code ({ cls := "java/lang/String", name := "equals", desc := "(Ljava/lang/Object;)Z" } : Jvm.MethodName) jdk_42_method_66_code (3 : Nat) (Option.some Jvm.ClassFile.FieldType.boolean)).before args0 about1 = true := code_word (m := ⟨10, 1⟩) (meth := k10m1) (c := k10c1) (by decide +kernel) rfl rfl rfl (by decide +kernel)
set_option maxRecDepth 65536 in
theorem w_c24 : (Jvm.Cond.code ({ cls := "java/lang/StringLatin1", name := "equals", desc := "([B[B)Z" } : Jvm.MethodName) jdk_43_method_13_code (3 : Nat) (Option.some Jvm.ClassFile.FieldType.boolean)).before args0 about1 = true := code_word (m := ⟨11, 2⟩) (meth := k11m2) (c := k11c2) (by decide +kernel) rfl rfl rfl (by decide +kernel)
set_option maxRecDepth 65536 in
theorem w_c25 : (Jvm.Cond.code ({ cls := "java/lang/Integer", name := "<init>", desc := "(I)V" } : Jvm.MethodName) jdk_33_method_23_code (2 : Nat) (Option.none : Option Jvm.ClassFile.FieldType)).before args0 about1 = true := code_word (m := ⟨13, 1⟩) (meth := k13m1) (c := k13c1) (by decide +kernel) rfl rfl rfl (by decide +kernel)
set_option maxRecDepth 65536 in
theorem w_c26 : (Jvm.Cond.code ({ cls := "java/lang/Number", name := "<init>", desc := "()V" } : Jvm.MethodName) jdk_18_method_1_code (1 : Nat) (Option.none : Option Jvm.ClassFile.FieldType)).before args0 about1 = true := code_word (m := ⟨12, 0⟩) (meth := k12m0) (c := k12c0) (by decide +kernel) rfl rfl rfl (by decide +kernel)
def codes1 : List Jvm.Cond := [Jvm.Cond.code x code maxLocals ret, Jvm.Cond.code ({ cls := "com/example/graphweave/graphweave/json/JsonObject", name := "<init>", desc := "()V" } : Jvm.MethodName) prog_14_method_1_code (1 : Nat) (Option.none : Option Jvm.ClassFile.FieldType), Jvm.Cond.code ({ cls := "java/util/AbstractMap", name := "<init>", desc := "()V" } : Jvm.MethodName) jdk_71_method_1_code (1 : Nat) (Option.none : Option Jvm.ClassFile.FieldType), Jvm.Cond.code ({ cls := "java/lang/Object", name := "<init>", desc := "()V" } : Jvm.MethodName) object_method_1_code (1 : Nat) (Option.none : Option Jvm.ClassFile.FieldType), Jvm.Cond.code ({ cls := "java/lang/String", name := "valueOf", desc := "(C)Ljava/lang/String;" } : Jvm.MethodName) jdk_42_method_139_code (1 : Nat) (Option.some (Jvm.ClassFile.FieldType.object "java/lang/String")), Jvm.Cond.code ({ cls := "java/lang/StringLatin1", name := "canEncode", desc := "(C)Z" } : Jvm.MethodName) jdk_43_method_3_code (1 : Nat) (Option.some Jvm.ClassFile.FieldType.boolean), Jvm.Cond.code ({ cls := "java/lang/StringLatin1", name := "toBytes", desc := "(C)[B" } : Jvm.MethodName) jdk_43_method_46_code (1 : Nat) (Option.some (Jvm.ClassFile.FieldType.array Jvm.ClassFile.FieldType.byte)), Jvm.Cond.code ({ cls := "java/lang/String", name := "<init>", desc := "([BB)V" } : Jvm.MethodName) jdk_42_method_151_code (3 : Nat) (Option.none : Option Jvm.ClassFile.FieldType), Jvm.Cond.code ({ cls := "java/lang/Integer", name := "valueOf", desc := "(I)Ljava/lang/Integer;" } : Jvm.MethodName) jdk_33_method_22_code (1 : Nat) (Option.some (Jvm.ClassFile.FieldType.object "java/lang/Integer")), Jvm.Cond.code ({ cls := "com/example/graphweave/graphweave/json/JsonObject", name := "put", desc := "(Ljava/lang/String;Ljava/lang/Object;)Ljava/lang/Object;" } : Jvm.MethodName) prog_14_method_5_code (5 : Nat) (Option.some (Jvm.ClassFile.FieldType.object "java/lang/Object")), Jvm.Cond.code ({ cls := "java/util/Objects", name := "requireNonNull", desc := "(Ljava/lang/Object;Ljava/lang/String;)Ljava/lang/Object;" } : Jvm.MethodName) jdk_31_method_11_code (2 : Nat) (Option.some (Jvm.ClassFile.FieldType.object "java/lang/Object")), Jvm.Cond.code ({ cls := "com/example/graphweave/graphweave/json/JsonObject", name := "find", desc := "(Ljava/lang/Object;)I" } : Jvm.MethodName) prog_14_method_11_code (5 : Nat) (Option.some Jvm.ClassFile.FieldType.int), Jvm.Cond.code ({ cls := "com/example/graphweave/graphweave/json/JsonObject", name := "grow", desc := "()V" } : Jvm.MethodName) prog_14_method_12_code (2 : Nat) (Option.none : Option Jvm.ClassFile.FieldType), Jvm.Cond.code ({ cls := "java/lang/Math", name := "max", desc := "(II)I" } : Jvm.MethodName) jdk_29_method_65_code (2 : Nat) (Option.some Jvm.ClassFile.FieldType.int), Jvm.Cond.code ({ cls := "java/util/Arrays", name := "copyOf", desc := "([Ljava/lang/Object;I)[Ljava/lang/Object;" } : Jvm.MethodName) jdk_65_method_119_code (2 : Nat) (Option.some (Jvm.ClassFile.FieldType.array (Jvm.ClassFile.FieldType.object "java/lang/Object"))), Jvm.Cond.code ({ cls := "java/util/Arrays", name := "copyOf", desc := "([Ljava/lang/Object;ILjava/lang/Class;)[Ljava/lang/Object;" } : Jvm.MethodName) jdk_65_method_120_code (4 : Nat) (Option.some (Jvm.ClassFile.FieldType.array (Jvm.ClassFile.FieldType.object "java/lang/Object"))), Jvm.Cond.code ({ cls := "java/lang/Math", name := "min", desc := "(II)I" } : Jvm.MethodName) jdk_29_method_69_code (2 : Nat) (Option.some Jvm.ClassFile.FieldType.int), Jvm.Cond.code ({ cls := "com/example/graphweave/graphweave/json/JsonObject", name := "clear", desc := "()V" } : Jvm.MethodName) prog_14_method_7_code (1 : Nat) (Option.none : Option Jvm.ClassFile.FieldType), Jvm.Cond.code ({ cls := "java/util/Arrays", name := "fill", desc := "([Ljava/lang/Object;IILjava/lang/Object;)V" } : Jvm.MethodName) jdk_65_method_118_code (5 : Nat) (Option.none : Option Jvm.ClassFile.FieldType), Jvm.Cond.code ({ cls := "java/util/Arrays", name := "rangeCheck", desc := "(III)V" } : Jvm.MethodName) jdk_65_method_30_code (3 : Nat) (Option.none : Option Jvm.ClassFile.FieldType), Jvm.Cond.code ({ cls := "com/example/graphweave/graphweave/json/JsonObject", name := "size", desc := "()I" } : Jvm.MethodName) prog_14_method_2_code (1 : Nat) (Option.some Jvm.ClassFile.FieldType.int), Jvm.Cond.code ({ cls := "com/example/graphweave/graphweave/json/JsonObject", name := "containsKey", desc := "(Ljava/lang/Object;)Z" } : Jvm.MethodName) prog_14_method_3_code (2 : Nat) (Option.some Jvm.ClassFile.FieldType.boolean), Jvm.Cond.code ({ cls := "com/example/graphweave/graphweave/json/JsonObject", name := "get", desc := "(Ljava/lang/Object;)Ljava/lang/Object;" } : Jvm.MethodName) prog_14_method_4_code (3 : Nat) (Option.some (Jvm.ClassFile.FieldType.object "java/lang/Object")), Jvm.Cond.code ({ cls := "java/lang/String", name := "equals", desc := "(Ljava/lang/Object;)Z" } : Jvm.MethodName) jdk_42_method_66_code (3 : Nat) (Option.some Jvm.ClassFile.FieldType.boolean), Jvm.Cond.code ({ cls := "java/lang/StringLatin1", name := "equals", desc := "([B[B)Z" } : Jvm.MethodName) jdk_43_method_13_code (3 : Nat) (Option.some Jvm.ClassFile.FieldType.boolean), Jvm.Cond.code ({ cls := "java/lang/Integer", name := "<init>", desc := "(I)V" } : Jvm.MethodName) jdk_33_method_23_code (2 : Nat) (Option.none : Option Jvm.ClassFile.FieldType), Jvm.Cond.code ({ cls := "java/lang/Number", name := "<init>", desc := "()V" } : Jvm.MethodName) jdk_18_method_1_code (1 : Nat) (Option.none : Option Jvm.ClassFile.FieldType)]
set_option maxRecDepth 65536 in
theorem codes_eq : words1.filter isCode = codes1 := rfl
theorem w_codes : ∀ c ∈ words1.filter isCode, c.before args0 about1 = true := by
  rw [codes_eq]
  intro c hc
  simp only [codes1, List.mem_cons, List.not_mem_nil, or_false] at hc
  rcases hc with rfl | rfl | rfl | rfl | rfl | rfl | rfl | rfl | rfl | rfl | rfl | rfl | rfl | rfl | rfl | rfl | rfl | rfl | rfl | rfl | rfl | rfl | rfl | rfl | rfl | rfl | rfl
  · exact w_c0
  · exact w_c1
  · exact w_c2
  · exact w_c3
  · exact w_c4
  · exact w_c5
  · exact w_c6
  · exact w_c7
  · exact w_c8
  · exact w_c9
  · exact w_c10
  · exact w_c11
  · exact w_c12
  · exact w_c13
  · exact w_c14
  · exact w_c15
  · exact w_c16
  · exact w_c17
  · exact w_c18
  · exact w_c19
  · exact w_c20
  · exact w_c21
  · exact w_c22
  · exact w_c23
  · exact w_c24
  · exact w_c25
  · exact w_c26
set_option maxRecDepth 65536 in
theorem w_t1 : (words1.take 24).all (fun c => isCode c || c.before args0 about1) = true := by decide +kernel
set_option maxRecDepth 65536 in
theorem w_t2 : ((words1.drop 24).take 24).all (fun c => isCode c || c.before args0 about1) = true := by decide +kernel
set_option maxRecDepth 65536 in
theorem w_t3 : (((words1.drop 24).drop 24).take 24).all (fun c => isCode c || c.before args0 about1) = true := by decide +kernel
set_option maxRecDepth 65536 in
theorem w_t4 : ((((words1.drop 24).drop 24).drop 24).take 24).all (fun c => isCode c || c.before args0 about1) = true := by decide +kernel
set_option maxRecDepth 65536 in
theorem w_t5 : (((((words1.drop 24).drop 24).drop 24).drop 24).take 24).all (fun c => isCode c || c.before args0 about1) = true := by decide +kernel
set_option maxRecDepth 65536 in
theorem w_t6 : ((((((words1.drop 24).drop 24).drop 24).drop 24).drop 24).take 24).all (fun c => isCode c || c.before args0 about1) = true := by decide +kernel
set_option maxRecDepth 65536 in
theorem w_t7 : ((((((words1.drop 24).drop 24).drop 24).drop 24).drop 24).drop 24).all (fun c => isCode c || c.before args0 about1) = true := by decide +kernel
theorem w_tables : (allAtoms (Jvm.Cond.code x code maxLocals ret :: tables_1)).before args0 about1 = true := by
  rw [allAtoms_all]
  show words1.all (fun c => c.before args0 about1) = true
  refine all_split ?_ w_codes
  rw [← List.take_append_drop 24 words1, List.all_append, w_t1, ← List.take_append_drop 24 (words1.drop 24), List.all_append, w_t2, ← List.take_append_drop 24 ((words1.drop 24).drop 24), List.all_append, w_t3, ← List.take_append_drop 24 (((words1.drop 24).drop 24).drop 24), List.all_append, w_t4, ← List.take_append_drop 24 ((((words1.drop 24).drop 24).drop 24).drop 24), List.all_append, w_t5, ← List.take_append_drop 24 (((((words1.drop 24).drop 24).drop 24).drop 24).drop 24), List.all_append, w_t6, w_t7]
  rfl
set_option maxRecDepth 65536 in
theorem w_rest : rest_1_c.before args0 about1 = true := by decide +kernel
set_option maxRecDepth 65536 in
theorem w_case : (Jvm.Cond.and given_1 narrow_1).before args0 about1 = true := by decide +kernel
theorem w_applies : (headSpec (Jvm.Cond.code x code maxLocals ret :: tables_1) room_1).applies x e0.platform about1 = true :=
  (Spec.applies_iff w_frames).mpr ⟨w_running, w_runnable, w_alone, w_named, w_hears, w_ripe, w_room, w_tables⟩
set_option maxRecDepth 200000 in
theorem atStart : AtStart classFile x code maxLocals ret World_1 tables_1 room_1 Calls_1 rest_1 Pre_1 launch0 p0 e0 about1 theMethod args0 below0 :=
  ⟨lists_1, trivial, launch0.admits_env _ _ _, launch0.least_env, fairChoices_fair.cas, fairChoices_fair.clock, w_frames, w_args, w_heap, w_applies, ⟨⟨28, k28, 4, by decide +kernel, rfl, rfl, _, rfl, rfl⟩, trivial⟩, w_rest, w_case⟩
end start1
theorem witness_1 : WitnessClaimed_1 := ⟨start1.p0, start1.e0, start1.about1, start1.theMethod, start1.args0, start1.below0, start1.atStart⟩
end Jvm.Pilot.@@N@@
