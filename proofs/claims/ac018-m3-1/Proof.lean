import JvmDerived
import JvmDerived.Pilot.@@N@@Statement
import JvmDerived.Pilot.@@N@@Code
set_option linter.unusedVariables false
set_option linter.unusedSimpArgs false
namespace Jvm.RoadKit
open Sem ClassFile Op Lib Jvm.Stand Jvm.Free Jvm.LawKit
section New
variable {p : Program} {l : Launch} {e : Env} {R : Room} {s : State} {m : MethodId} {args : Array Value} {below : List Frame} {meth : Method} {c : Code} {T : State} {locs : List Loc} {cells slots : Nat}
theorem retI (X : Stand p l e R s m args below meth c T locs cells slots) (hx : p.tables.exec = Jvm.exec) {pc : Nat} {Ls : Array Slot} {z : Int32} {rest : List Value} (hret : meth.sig.returnType = some .int) (hd : decode c.code pc = .ok (.ireturn, 1)) {fs : List Frame}
    (hl : ∀ (f : JFrame) (acts : List Action), f.method = m → f.locked = none → f.entered = [] → (doReturn e (T.setTop f) acts (some (.int z))).1 = T.setFrames fs) : Steps p.tables e below (T.setTop (mkF m pc Ls (.int z :: rest))) (T.setFrames fs) := by
  have hm' : T.vm.method? m = some meth := X.method'
  have hn : narrow .int (.int z) = .int z := rfl
  show Steps p.tables e below (T.setTop { method := m, pc := pc, locals := Ls, stack := _ :: rest, locked := none }) _
  jvm_step X.here [X.here.top, hx, hd, hm', hret, hn]
  first | (intro acts; rw [hl _ acts rfl rfl rfl]) | rw [hl _ _ rfl rfl rfl]
  exact Steps.refl _
end New
end Jvm.RoadKit
namespace Jvm.RoadKit
open Sem ClassFile Op Lib Jvm.Stand Jvm.Free Jvm.LawKit
/-- own: the rest of a run, from the state t on -/
def Go (p : Program) (e : Env) (below : List Frame) (s : State) (Q : Option Value → Heap → List Loc → Prop) (C S : Nat) (t : State) : Prop :=
  ∃ s₂ o, Steps p.tables e below t s₂ ∧ s₂.status = .running ∧ Ended s₂ below o ∧ ∃ v L, o = .returned v ∧ Q v s₂.heap L ∧ FrameEnd s o s₂ L C S
theorem Go.st {p : Program} {e : Env} {below : List Frame} {s : State} {Q : Option Value → Heap → List Loc → Prop} {C S : Nat} {t t' : State} (h : ∀ target, Steps p.tables e below t' target → Steps p.tables e below t target) (k : Go p e below s Q C S t') : Go p e below s Q C S t := by
  obtain ⟨s₂, o, h1, h2⟩ := k
  exact ⟨s₂, o, h _ h1, h2⟩
theorem Go.by {p : Program} {e : Env} {below : List Frame} {s : State} {Q : Option Value → Heap → List Loc → Prop} {C S : Nat} {t t' : State} (h : Steps p.tables e below t t') (k : Go p e below s Q C S t') : Go p e below s Q C S t := by
  obtain ⟨s₂, o, h1, h2⟩ := k
  exact ⟨s₂, o, h.trans h1, h2⟩
theorem Go.ret {p : Program} {l : Launch} {e : Env} {R : Room} {s : State} {m : MethodId} {args : Array Value} {below : List Frame} {meth : Method} {c : Code} {T : State} {locs : List Loc} {cells slots : Nat} {Q : Option Value → Heap → List Loc → Prop} {C S : Nat} {t : State}
    (X : Stand p l e R s m args below meth c T locs cells slots) {v : Option Value} (hv : meth.sig.returnType = none → v = none) (hlocks : meth.locks = false)
    (st : ∀ fs, (∀ (f : JFrame) (acts : List Action), f.method = m → f.locked = none → f.entered = [] → (doReturn e (T.setTop f) acts v).1 = T.setFrames fs) → Steps p.tables e below t (T.setFrames fs))
    (hQ : Q v T.heap locs) (hC : cells ≤ C) (hS : slots ≤ S) : Go p e below s Q C S t := by
  obtain ⟨fs, hr, hrun, hended, hW, hsame⟩ := X.leave hv hlocks
  exact ⟨_, _, st fs hr, hrun, hended, _, _, rfl, hQ, ⟨_, rfl⟩, hW, hsame.mono hC hS⟩
def GoW (p : Program) (e : Env) (below : List Frame) (s : State) (Q : Option Value → Heap → List Loc → Prop) (C S : Nat) (t : State) : Prop :=
  ∃ s₂ o, Steps p.tables e below t s₂ ∧ s₂.status = .running ∧ Ended s₂ below o ∧ ∃ v L, o = .returned v ∧ Q v s₂.heap L ∧ ReturnedEndW s o s₂ L C S
theorem GoW.st {p : Program} {e : Env} {below : List Frame} {s : State} {Q : Option Value → Heap → List Loc → Prop} {C S : Nat} {t t' : State} (h : ∀ target, Steps p.tables e below t' target → Steps p.tables e below t target) (k : GoW p e below s Q C S t') : GoW p e below s Q C S t := by
  obtain ⟨s₂, o, h1, h2⟩ := k
  exact ⟨s₂, o, h _ h1, h2⟩
theorem GoW.by {p : Program} {e : Env} {below : List Frame} {s : State} {Q : Option Value → Heap → List Loc → Prop} {C S : Nat} {t t' : State} (h : Steps p.tables e below t t') (k : GoW p e below s Q C S t') : GoW p e below s Q C S t := by
  obtain ⟨s₂, o, h1, h2⟩ := k
  exact ⟨s₂, o, h.trans h1, h2⟩
theorem GoW.ret {p : Program} {l : Launch} {e : Env} {R : Room} {s : State} {vm₁ : Vm} {m : MethodId} {args : Array Value} {below : List Frame} {meth : Method} {c : Code} {T : State} {locs : List Loc} {cells slots : Nat} {Q : Option Value → Heap → List Loc → Prop} {C S : Nat} {t : State}
    (X : Stand p l e R (s.setVm vm₁) m args below meth c T locs cells slots) {n : Nat} (hSi : s.Since vm₁ n) (hn : n ≤ T.heap.size) {v : Option Value} (hv : meth.sig.returnType = none → v = none) (hlocks : meth.locks = false)
    (st : ∀ fs, (∀ (f : JFrame) (acts : List Action), f.method = m → f.locked = none → f.entered = [] → (doReturn e (T.setTop f) acts v).1 = T.setFrames fs) → Steps p.tables e below t (T.setFrames fs))
    (hQ : Q v T.heap locs) (hC : cells ≤ C) (hS : slots ≤ S) : GoW p e below s Q C S t := by
  obtain ⟨fs, hr, hrun, hended, h1, h2, h3, h4⟩ := X.leaveW hSi hn hv hlocks
  exact ⟨_, _, st fs hr, hrun, hended, _, _, rfl, hQ, h1, h2, h3, h4.mono hC hS⟩
abbrev Rm (f c s l : Nat) : Room := { frames := f, cells := c, slots := s, locals := l }
abbrev Met (l : Launch) (Z : State) (ws : List Cond) (y : MethodName) (bytes : ByteArray) (ml : Nat) (rt : Option FieldType) (rm : Room) (as' : Array Value) (h0 : Heap) (Q : Option Value → Heap → List Loc → Prop) : Prop :=
  MetFree l y (head1 (Cond.code y bytes ml rt :: ws) rm) (fun a U => a = as' ∧ Z.Warmed39 U.vm ∧ U.heap = h0) (fun _ _ _ _ _ => True) (fun _ U o U' => ∃ v L, o = .returned v ∧ Q v U'.heap L ∧ FrameEnd U o U' L rm.cells rm.slots)
theorem Met.enter {l : Launch} {Z : State} {ws : List Cond} {y : MethodName} {bytes : ByteArray} {ml : Nat} {rt : Option FieldType} {rm : Room} {as' : Array Value} {h0 : Heap} {Q : Option Value → Heap → List Loc → Prop} {L0 : Array Slot} (hp : plainFor y = true) (ef : ∀ m, entryFrame m as' ml = mkF m 0 L0 [])
    (body : ∀ (p : Program) (e : Env) (s : State) (m : MethodId) (below : List Frame) (meth : Method) (c : Code) (s₁ : State), p.tables.exec = Jvm.exec → c.code = bytes → c.maxLocals = ml → s.vm.findClass y.cls = some m.cls → meth.name = y.name → meth.sig.returnType = rt → meth.locks = false → Z.Warmed39 s.vm → Stand p l e rm s m as' below meth c s₁ [] 0 0 → s₁.heap = h0 → Go p e below s Q rm.cells rm.slots (s₁.setTop (mkF m 0 L0 []))) : Met l Z ws y bytes ml rt rm as' h0 Q := by
  refine MetFree.of_bodySF hp hisR ?_
  intro p e s m args below meth c s₁ Bd hml0 hP hK
  obtain ⟨rfl, hZ, hh⟩ := hP
  have e0 : s₁.heap = h0 := by rw [← hh, Bd.state]; rfl
  exact Go.st (fun t k => castTop (ef m) k) (body p e s m below meth c s₁ Bd.exec Bd.bytes hml0 (findClass_of_methodNamed Bd.named) (name_of_methodNamed Bd.named Bd.method).1 Bd.returns (BodyLoose.notSynchronized Bd) hZ (Stand.of_body Bd) e0)
abbrev MetW (l : Launch) (Z : State) (ws : List Cond) (y : MethodName) (bytes : ByteArray) (ml : Nat) (rt : Option FieldType) (rm : Room) (as' : Array Value) (h0 : Heap) (Q : Option Value → Heap → List Loc → Prop) : Prop :=
  MetFree l y (head1 (Cond.code y bytes ml rt :: ws) rm) (fun a U => a = as' ∧ Z.Warmed39 U.vm ∧ U.heap = h0) (fun _ _ _ _ _ => True) (fun _ U o U' => ∃ v L, o = .returned v ∧ Q v U'.heap L ∧ ReturnedEndW U o U' L rm.cells rm.slots)
theorem MetW.enter {l : Launch} {Z : State} {ws : List Cond} {y : MethodName} {bytes : ByteArray} {ml : Nat} {rt : Option FieldType} {rm : Room} {as' : Array Value} {h0 : Heap} {Q : Option Value → Heap → List Loc → Prop} {L0 : Array Slot} (hp : plainFor y = true) (ef : ∀ m, entryFrame m as' ml = mkF m 0 L0 [])
    (body : ∀ (p : Program) (e : Env) (s : State) (m : MethodId) (below : List Frame) (meth : Method) (c : Code) (s₁ : State), p.tables.exec = Jvm.exec → c.code = bytes → c.maxLocals = ml → s.vm.findClass y.cls = some m.cls → meth.name = y.name → meth.sig.returnType = rt → meth.locks = false → Z.Warmed39 s.vm → Stand p l e rm (s.setVm s.vm) m as' below meth c s₁ [] 0 0 → s₁.heap = h0 → GoW p e below s Q rm.cells rm.slots (s₁.setTop (mkF m 0 L0 []))) : MetW l Z ws y bytes ml rt rm as' h0 Q := by
  refine MetFree.of_bodySF hp hisR ?_
  intro p e s m args below meth c s₁ Bd hml0 hP hK
  obtain ⟨rfl, hZ, hh⟩ := hP
  have e0 : s₁.heap = h0 := by rw [← hh, Bd.state]; rfl
  exact GoW.st (fun t k => castTop (ef m) k) (body p e s m below meth c s₁ Bd.exec Bd.bytes hml0 (findClass_of_methodNamed Bd.named) (name_of_methodNamed Bd.named Bd.method).1 Bd.returns (BodyLoose.notSynchronized Bd) hZ (Stand.of_body Bd) e0)
def GoH (p : Program) (e : Env) (below : List Frame) (s : State) (P : Option Value → State → List Loc → Prop) (C S : Nat) (t : State) : Prop :=
  ∃ s₂ o, Steps p.tables e below t s₂ ∧ s₂.status = .running ∧ Ended s₂ below o ∧ ∃ v L, o = .returned v ∧ P v s₂ L ∧ ReturnedEndW s o s₂ L C S
theorem GoH.st {p : Program} {e : Env} {below : List Frame} {s : State} {P : Option Value → State → List Loc → Prop} {C S : Nat} {t t' : State} (h : ∀ target, Steps p.tables e below t' target → Steps p.tables e below t target) (k : GoH p e below s P C S t') : GoH p e below s P C S t := by
  obtain ⟨s₂, o, h1, h2⟩ := k
  exact ⟨s₂, o, h _ h1, h2⟩
theorem GoH.by {p : Program} {e : Env} {below : List Frame} {s : State} {P : Option Value → State → List Loc → Prop} {C S : Nat} {t t' : State} (h : Steps p.tables e below t t') (k : GoH p e below s P C S t') : GoH p e below s P C S t := by
  obtain ⟨s₂, o, h1, h2⟩ := k
  exact ⟨s₂, o, h.trans h1, h2⟩
theorem GoH.ret {p : Program} {l : Launch} {e : Env} {R : Room} {s : State} {vm₁ : Vm} {m : MethodId} {args : Array Value} {below : List Frame} {meth : Method} {c : Code} {T : State} {locs : List Loc} {cells slots : Nat} {Q : Option Value → Heap → List Loc → Prop} {C S : Nat} {t : State} {Z : State} {EL : List (String × Nat)} {a0 : Array Value} {h0 h : Heap}
    (X : Stand p l e R (s.setVm vm₁) m args below meth c T locs cells slots) {n : Nat} (hSi : s.Since vm₁ n) (hn : n ≤ T.heap.size) (hZ : Z.Warmed39 vm₁) (hEL : EW Z a0 EL) (ch : CHr Z EL s.vm h0 vm₁ h) (eT : T.heap = h) {v : Option Value} (hv : meth.sig.returnType = none → v = none) (hlocks : meth.locks = false)
    (st : ∀ fs, (∀ (f : JFrame) (acts : List Action), f.method = m → f.locked = none → f.entered = [] → (doReturn e (T.setTop f) acts v).1 = T.setFrames fs) → Steps p.tables e below t (T.setFrames fs))
    (hQ : Q v T.heap locs) (hC : cells ≤ C) (hS : slots ≤ S) : GoH p e below s (fun v s₂ L => Q v s₂.heap L ∧ CHr Z EL s.vm h0 s₂.vm s₂.heap) C S t := by
  obtain ⟨fs, hr, hrun, hended, h1, h2, h3, h4⟩ := X.leaveW hSi hn hv hlocks
  have q := ch.trans (CHv.at X hZ hEL ch.1)
  rw [← eT] at q
  exact ⟨_, _, st fs hr, hrun, hended, _, _, rfl, ⟨hQ, q⟩, h1, h2, h3, h4.mono hC hS⟩
abbrev MetH (EL : List (String × Nat)) (xs : List Addr) (l : Launch) (Z : State) (ws : List Cond) (y : MethodName) (bytes : ByteArray) (ml : Nat) (rt : Option FieldType) (rm : Room) (as' : Array Value) (h0 : Heap) (Q : Option Value → Heap → List Loc → Prop) : Prop :=
  MetFree l y (head1 (Cond.code y bytes ml rt :: ws) rm) (fun a U => a = as' ∧ Z.Warmed39 U.vm ∧ U.heap = h0 ∧ CHv Z EL U.vm h0 ∧ ∀ x ∈ xs, Safe Z EL U.vm h0 x) (fun _ _ _ _ _ => True) (fun _ U o U' => ∃ v L, o = .returned v ∧ Q v U'.heap L ∧ CHr Z EL U.vm U.heap U'.vm U'.heap ∧ ReturnedEndW U o U' L rm.cells rm.slots)
theorem MetH.enter {EL : List (String × Nat)} {xs : List Addr} {l : Launch} {Z : State} {ws : List Cond} {y : MethodName} {bytes : ByteArray} {ml : Nat} {rt : Option FieldType} {rm : Room} {as' : Array Value} {h0 : Heap} {Q : Option Value → Heap → List Loc → Prop} {L0 : Array Slot} (hp : plainFor y = true) (ef : ∀ m, entryFrame m as' ml = mkF m 0 L0 [])
    (body : ∀ (p : Program) (e : Env) (s : State) (m : MethodId) (below : List Frame) (meth : Method) (c : Code) (s₁ : State), p.tables.exec = Jvm.exec → c.code = bytes → c.maxLocals = ml → s.vm.findClass y.cls = some m.cls → meth.name = y.name → meth.sig.returnType = rt → meth.locks = false → Z.Warmed39 s.vm → Stand p l e rm (s.setVm s.vm) m as' below meth c s₁ [] 0 0 → s₁.heap = h0 → CHv Z EL s.vm h0 → (∀ x ∈ xs, Safe Z EL s.vm h0 x) → GoH p e below s (fun v s₂ L => Q v s₂.heap L ∧ CHr Z EL s.vm h0 s₂.vm s₂.heap) rm.cells rm.slots (s₁.setTop (mkF m 0 L0 []))) : MetH EL xs l Z ws y bytes ml rt rm as' h0 Q := by
  refine MetFree.of_bodySF hp hisR ?_
  intro p e s m args below meth c s₁ Bd hml0 hP hK
  obtain ⟨rfl, hZ, hh, hH, hX⟩ := hP
  have e0 : s₁.heap = h0 := by rw [← hh, Bd.state]; rfl
  obtain ⟨s₂, o, q1, q2, q3, v, L, q4, ⟨q5, q6⟩, q7⟩ := GoH.st (fun t k => castTop (ef m) k) (body p e s m below meth c s₁ Bd.exec Bd.bytes hml0 (findClass_of_methodNamed Bd.named) (name_of_methodNamed Bd.named Bd.method).1 Bd.returns (BodyLoose.notSynchronized Bd) hZ (Stand.of_body Bd) e0 hH hX)
  exact ⟨s₂, o, q1, q2, q3, v, L, q4, q5, by rw [hh]; exact q6, q7⟩
abbrev MetP (EL : List (String × Nat)) (xs : List Addr) (l : Launch) (Z : State) (ws : List Cond) (y : MethodName) (bytes : ByteArray) (ml : Nat) (rt : Option FieldType) (rm : Room) (as' : Array Value) (h0 : Heap) (Q : Option Value → Heap → List Loc → Prop) : Prop :=
  MetFree l y (head1 (Cond.code y bytes ml rt :: ws) rm) (fun a U => a = as' ∧ Z.Warmed39 U.vm ∧ U.heap = h0 ∧ CHv Z EL U.vm h0 ∧ ∀ x ∈ xs, Safe Z EL U.vm h0 x) (fun _ _ _ _ _ => True) (fun _ U o U' => ∃ v L, o = .returned v ∧ Q v U'.heap L ∧ ReturnedEndW U o U' L rm.cells rm.slots)
theorem MetP.enter {EL : List (String × Nat)} {xs : List Addr} {l : Launch} {Z : State} {ws : List Cond} {y : MethodName} {bytes : ByteArray} {ml : Nat} {rt : Option FieldType} {rm : Room} {as' : Array Value} {h0 : Heap} {Q : Option Value → Heap → List Loc → Prop} {L0 : Array Slot} (hp : plainFor y = true) (ef : ∀ m, entryFrame m as' ml = mkF m 0 L0 [])
    (body : ∀ (p : Program) (e : Env) (s : State) (m : MethodId) (below : List Frame) (meth : Method) (c : Code) (s₁ : State), p.tables.exec = Jvm.exec → c.code = bytes → c.maxLocals = ml → s.vm.findClass y.cls = some m.cls → meth.name = y.name → meth.sig.returnType = rt → meth.locks = false → Z.Warmed39 s.vm → Stand p l e rm (s.setVm s.vm) m as' below meth c s₁ [] 0 0 → s₁.heap = h0 → CHv Z EL s.vm h0 → (∀ x ∈ xs, Safe Z EL s.vm h0 x) → GoW p e below s Q rm.cells rm.slots (s₁.setTop (mkF m 0 L0 []))) : MetP EL xs l Z ws y bytes ml rt rm as' h0 Q := by
  refine MetFree.of_bodySF hp hisR ?_
  intro p e s m args below meth c s₁ Bd hml0 hP hK
  obtain ⟨rfl, hZ, hh, hH, hX⟩ := hP
  have e0 : s₁.heap = h0 := by rw [← hh, Bd.state]; rfl
  exact GoW.st (fun t k => castTop (ef m) k) (body p e s m below meth c s₁ Bd.exec Bd.bytes hml0 (findClass_of_methodNamed Bd.named) (name_of_methodNamed Bd.named Bd.method).1 Bd.returns (BodyLoose.notSynchronized Bd) hZ (Stand.of_body Bd) e0 hH hX)
theorem own_backOfSX {p : Program} {l : Launch} {e : Env} {R : Room} {s : State} {args : Array Value} {below : List Frame} {Z : State} {a0 : Array Value} {EL : List (String × Nat)} {xs : List Addr} {h : Heap} {vm0 : Vm} {y : MethodName} {bytes : ByteArray} {maxL : Nat} {ret : Option FieldType} {rm : Room} {len W : Nat} {as' : Array Value} {Q : Option Value → Heap → List Loc → Prop}
    (hM : MetFree l y (head1 [Cond.code y bytes maxL ret] rm) (fun a U => a = as' ∧ Z.Warmed39 U.vm ∧ U.heap = h ∧ CHv Z EL U.vm h ∧ ∀ x ∈ xs, Safe Z EL U.vm h x) (fun _ _ _ _ _ => True) (fun _ U o U' => ∃ v L, o = .returned v ∧ Q v U'.heap L ∧ CHr Z EL U.vm U.heap U'.vm U'.heap ∧ ReturnedEndW U o U' L rm.cells rm.slots))
    (hZ : Z.Warmed39 vm0) (wc : (Cond.code y bytes maxL ret).before a0 Z = true) (wz : (Cond.initialized y.cls).before a0 Z = true) (hf : rm.frames + 1 ≤ R.frames) (hl : W + (maxL + 11) + rm.locals ≤ R.locals) (hEL : EW Z a0 EL) (H : CHv Z EL vm0 h) (hxs : ∀ x ∈ xs, x < h.size ∧ Safe Z EL vm0 h x) :
    BackS l R p e below (s.setVm vm0) args y len W (fun A a => a = as' ∧ A.U.heap = h ∧ A.cells + rm.cells ≤ R.cells ∧ A.slots + rm.slots ≤ R.slots)
      (fun A _ v B => ∃ L, Q v B.U.heap L ∧ B.locs = A.locs ++ L ∧ B.cells = A.cells + rm.cells ∧ B.slots = A.slots + rm.slots ∧ CHr Z EL vm0 h B.U.vm B.U.heap) :=
  BackS.of_freeW (bytes := bytes) (maxL := maxL) (ret := ret) (E := fun _ first o t L k n => k = rm.cells ∧ n = rm.slots ∧ (∃ v, o = .returned v ∧ Q v t.heap L) ∧ CHr Z EL first.vm first.heap t.vm t.heap) hM hf hl
    (fun m meth c A a Y hp => have hU : Z.Warmed39 A.U.vm := wtrans (s := s.setVm vm0) hZ Y.warmed
      ⟨by show (Cond.and _ .tt).before a A.U = true; rw [Cond.before_and, mv hU wc]; rfl, mv hU wc, mv hU wz, hp.2.2.1, hp.2.2.2⟩)
    (fun m meth c A a g mk Y hp => ⟨hp.1, wtrans (s := s.setVm vm0) hZ Y.warmed, hp.2.1, (CHv.at Y hZ hEL H).1, fun x hx => (CHv.at Y hZ hEL H).safe (hxs x hx).1 (hxs x hx).2⟩) (fun _ _ _ _ _ _ _ _ _ => trivial)
    (fun _ _ _ _ ⟨v, L, h1, h2, h3, h4⟩ => ⟨L, _, _, h4, rfl, rfl, ⟨v, h1, h2⟩, h3⟩)
    (fun m meth c A a g mk v t L k n Y hp _ _ ⟨e1, e2, ⟨v', e3, e4⟩, e5⟩ => by
      cases e3; subst e1 e2
      refine ⟨L, e4, rfl, rfl, rfl, (CHv.at Y hZ hEL H).trans ?_⟩
      rw [← hp.2.1]; exact e5)
theorem own_backOfSP {p : Program} {l : Launch} {e : Env} {R : Room} {s : State} {args : Array Value} {below : List Frame} {Z : State} {a0 : Array Value} {EL : List (String × Nat)} {xs : List Addr} {h : Heap} {vm0 : Vm} {y : MethodName} {bytes : ByteArray} {maxL : Nat} {ret : Option FieldType} {rm : Room} {len W : Nat} {as' : Array Value} {Q : Option Value → Heap → List Loc → Prop}
    (hM : MetFree l y (head1 [Cond.code y bytes maxL ret] rm) (fun a U => a = as' ∧ Z.Warmed39 U.vm ∧ U.heap = h ∧ CHv Z EL U.vm h ∧ ∀ x ∈ xs, Safe Z EL U.vm h x) (fun _ _ _ _ _ => True) (fun _ U o U' => ∃ v L, o = .returned v ∧ Q v U'.heap L ∧ ReturnedEndW U o U' L rm.cells rm.slots))
    (hZ : Z.Warmed39 vm0) (wc : (Cond.code y bytes maxL ret).before a0 Z = true) (wz : (Cond.initialized y.cls).before a0 Z = true) (hf : rm.frames + 1 ≤ R.frames) (hl : W + (maxL + 11) + rm.locals ≤ R.locals) (hEL : EW Z a0 EL) (H : CHv Z EL vm0 h) (hxs : ∀ x ∈ xs, x < h.size ∧ Safe Z EL vm0 h x) :
    BackS l R p e below (s.setVm vm0) args y len W (fun A a => a = as' ∧ A.U.heap = h ∧ A.cells + rm.cells ≤ R.cells ∧ A.slots + rm.slots ≤ R.slots)
      (fun A _ v B => ∃ L, Q v B.U.heap L ∧ B.locs = A.locs ++ L ∧ B.cells = A.cells + rm.cells ∧ B.slots = A.slots + rm.slots) :=
  BackS.of_freeW (bytes := bytes) (maxL := maxL) (ret := ret) (E := fun _ first o t L k n => k = rm.cells ∧ n = rm.slots ∧ (∃ v, o = .returned v ∧ Q v t.heap L)) hM hf hl
    (fun m meth c A a Y hp => have hU : Z.Warmed39 A.U.vm := wtrans (s := s.setVm vm0) hZ Y.warmed
      ⟨by show (Cond.and _ .tt).before a A.U = true; rw [Cond.before_and, mv hU wc]; rfl, mv hU wc, mv hU wz, hp.2.2.1, hp.2.2.2⟩)
    (fun m meth c A a g mk Y hp => ⟨hp.1, wtrans (s := s.setVm vm0) hZ Y.warmed, hp.2.1, (CHv.at Y hZ hEL H).1, fun x hx => (CHv.at Y hZ hEL H).safe (hxs x hx).1 (hxs x hx).2⟩) (fun _ _ _ _ _ _ _ _ _ => trivial)
    (fun _ _ _ _ ⟨v, L, h1, h2, h4⟩ => ⟨L, _, _, h4, rfl, rfl, ⟨v, h1, h2⟩⟩)
    (fun m meth c A a g mk v t L k n Y hp _ _ ⟨e1, e2, ⟨v', e3, e4⟩⟩ => by
      cases e3; subst e1 e2
      exact ⟨L, e4, rfl, rfl, rfl⟩)
theorem retR {p : Program} {l : Launch} {e : Env} {R : Room} {s : State} {m : MethodId} {args : Array Value} {below : List Frame} {meth : Method} {c : Code} {T : State} {locs : List Loc} {cells slots : Nat} (X : Stand p l e R s m args below meth c T locs cells slots) (hx : p.tables.exec = Jvm.exec) {pc : Nat} {Ls : Array Slot} {z : Value} {rest : List Value} {t : FieldType} (hret : meth.sig.returnType = some t) (ht : t.isReference = true) (hz : z.isRef = true) (hd : decode c.code pc = .ok (.areturn, 1)) {fs : List Frame}
    (hl : ∀ (f : JFrame) (acts : List Action), f.method = m → f.locked = none → f.entered = [] → (doReturn e (T.setTop f) acts (some z)).1 = T.setFrames fs) : Steps p.tables e below (T.setTop (mkF m pc Ls (z :: rest))) (T.setFrames fs) := by
  have hm' : T.vm.method? m = some meth := X.method'
  show Steps p.tables e below (T.setTop { method := m, pc := pc, locals := Ls, stack := _ :: rest, locked := none }) _
  jvm_step X.here [X.here.top, hx, hd, hm', hret, ht, hz]
  first | (intro acts; rw [hl _ acts rfl rfl rfl]) | rw [hl _ _ rfl rfl rfl]
  exact Steps.refl _
theorem retJ {p : Program} {l : Launch} {e : Env} {R : Room} {s : State} {m : MethodId} {args : Array Value} {below : List Frame} {meth : Method} {c : Code} {T : State} {locs : List Loc} {cells slots : Nat} (X : Stand p l e R s m args below meth c T locs cells slots) (hx : p.tables.exec = Jvm.exec) {pc : Nat} {Ls : Array Slot} {z : Int64} {rest : List Value} (hret : meth.sig.returnType = some .long) (hd : decode c.code pc = .ok (.lreturn, 1)) {fs : List Frame}
    (hl : ∀ (f : JFrame) (acts : List Action), f.method = m → f.locked = none → f.entered = [] → (doReturn e (T.setTop f) acts (some (.long z))).1 = T.setFrames fs) : Steps p.tables e below (T.setTop (mkF m pc Ls (.long z :: rest))) (T.setFrames fs) := by
  have hm' : T.vm.method? m = some meth := X.method'
  show Steps p.tables e below (T.setTop { method := m, pc := pc, locals := Ls, stack := _ :: rest, locked := none }) _
  jvm_step X.here [X.here.top, hx, hd, hm', hret, narrow]
  first | (intro acts; rw [hl _ acts rfl rfl rfl]) | rw [hl _ _ rfl rfl rfl]
  exact Steps.refl _
theorem retD {p : Program} {l : Launch} {e : Env} {R : Room} {s : State} {m : MethodId} {args : Array Value} {below : List Frame} {meth : Method} {c : Code} {T : State} {locs : List Loc} {cells slots : Nat} (X : Stand p l e R s m args below meth c T locs cells slots) (hx : p.tables.exec = Jvm.exec) {pc : Nat} {Ls : Array Slot} {z : UInt64} {rest : List Value} (hret : meth.sig.returnType = some .double) (hd : decode c.code pc = .ok (.dreturn, 1)) {fs : List Frame}
    (hl : ∀ (f : JFrame) (acts : List Action), f.method = m → f.locked = none → f.entered = [] → (doReturn e (T.setTop f) acts (some (.double z))).1 = T.setFrames fs) : Steps p.tables e below (T.setTop (mkF m pc Ls (.double z :: rest))) (T.setFrames fs) := by
  have hm' : T.vm.method? m = some meth := X.method'
  show Steps p.tables e below (T.setTop { method := m, pc := pc, locals := Ls, stack := _ :: rest, locked := none }) _
  jvm_step X.here [X.here.top, hx, hd, hm', hret, narrow]
  first | (intro acts; rw [hl _ acts rfl rfl rfl]) | rw [hl _ _ rfl rfl rfl]
  exact Steps.refl _
theorem Arr.keep {Z : State} {h h' : Heap} {a : Addr} {c : Cell} {ty : FieldType} {ws : List Addr} (F : Arr Z h a c ty) (K : Keep h h' ws) (q : a ∉ ws) : Arr Z h' a c ty := ⟨K.2.1 a c F.1 q, F.2⟩
theorem Ins.keep {Z : State} {h h' : Heap} {a : Addr} {C : String} {b : Bool} {ws : List Addr} (F : Ins Z h a C b) (K : Keep h h' ws) : Ins Z h' a C b := by
  obtain ⟨cell, cT, h1, h2, h3⟩ := F
  obtain ⟨c', q, r1, r2, -⟩ := K.2.2 a cell h1
  exact ⟨c', cT, q, h2, by rw [r1, r2]; exact h3⟩
theorem own_selp {Z : State} {a0 : Array Value} {y : MethodName} {k : Nat} (wi : (Jvm.Cond.instantiable y.cls k).before a0 Z = true) (wp : (Jvm.Cond.privateMethod y).before a0 Z = true) (wm : (Jvm.Cond.instanceMethod y).before a0 Z = true) (hy : y.cls ≠ "java/lang/invoke/MethodHandle" ∧ y.cls ≠ "java/lang/invoke/VarHandle") : (Jvm.Cond.selects y.cls y y).before a0 Z = true := by
  obtain ⟨c, k', h1, h2, -, h3, -⟩ := Cond.instantiable_spec wi
  exact selects_self_of_private h1 h2 (by simp only [Bool.or_eq_false_iff] at h3; exact h3.1) (Cond.privateMethod_at wp) wm hy
theorem own_mvNest {Z s : State} {a0 args : Array Value} {own host : String} {index : Nat} {y : MethodName} (hZ : Z.Warmed39 s.vm) (w : (Jvm.Cond.methodLinkNest own index y host).before a0 Z = true) : (Jvm.Cond.methodLinkNest own index y host).before args s = true := (Cond.methodLinkNest_wide hZ w :)
theorem own_nsroot {Z : State} {a0 : Array Value} {O K : String} {n : Nat} (w : (Jvm.Cond.noSuperclass O).before a0 Z = true) (wk : (Jvm.Cond.instantiable K n).before a0 Z = true) (hn : O ≠ K) : NS Z O K := by
  obtain ⟨c, k, h1, h2, h3, -, -⟩ := Cond.noSuperclass_spec w
  obtain ⟨t, kt, g1, -⟩ := Cond.instantiable_spec wk
  have ne := ids_ne h1 g1 hn
  exact ⟨c, t, h1, g1, fun fuel => by cases fuel with | zero => rfl | succ f => simp [Vm.isSubclassAux, ne, h2, h3]⟩
theorem own_nsno {Z : State} {a0 : Array Value} {C S K : String} {n : Nat} (w : (Jvm.Cond.superclass C S).before a0 Z = true) (wk : (Jvm.Cond.instantiable K n).before a0 Z = true) (nn : NS Z C K) (hn : C ≠ K) : ∃ c t, Z.vm.findClass C = some c ∧ Z.vm.findClass K = some t ∧ Z.vm.assignable c t = false := by
  obtain ⟨c, t, h0, g0, n3⟩ := nn
  obtain ⟨p, k, kp, -, h2, -, -, h5, -, h7⟩ := Cond.superclass_spec h0 w
  obtain ⟨t', k', g1, g2, g3, g4, -⟩ := Cond.instantiable_spec wk
  cases g0.symm.trans g1
  simp only [Bool.or_eq_false_iff] at g4
  have ne := ids_ne h0 g0 hn
  refine ⟨c, _, h0, g0, ?_⟩
  show Z.vm.assignableAux (255 + 1) c _ = false
  simp [Vm.assignableAux, ne, h2, g2, h5, g3, g4.1, Vm.isSubclass, n3]
section OwnWords
variable {args : Array Value} {first s : State} {o : Option Outcome} {idx : List Nat} {a b t : Term}
theorem own_eqi {z : Int32} (h : (Jvm.Cond.eq a (Term.int z)).value args first o s idx = some true) : a.eval args first o idx s = some (.int z) := by
  obtain ⟨x, y, h1, h2, h3, h4⟩ := cmp_v (Or.inl h)
  obtain rfl : .int z = y := Option.some.inj ((Term.int_eval z).symm.trans h2)
  obtain ⟨w, rfl⟩ := h4
  simp only [Cond.value, h1, h2] at h
  simp at h
  rw [h1, h]
theorem own_eqr {w : Addr} (h : (Jvm.Cond.eq a b).value args first o s idx = some true) (hb : b.eval args first o idx s = some (.ref w)) : a.eval args first o idx s = some (.ref w) := by
  obtain ⟨x, y, h1, h2, h3, h4⟩ := cmp_v (Or.inl h)
  cases h2.symm.trans hb
  have hx : x.isRef = true := h4.2
  have q := gotT (eq_R h1 h2 hx rfl) h
  rw [h1, q]
theorem own_len {n : Int32} {w : Addr} {cl : Cell} (h : (Term.length t).eval args first o idx s = some (.int n)) (ht : t.eval args first o idx s = some (.ref w)) (hc : s.heap[w]? = some cl) : cl.slots.size = n.toNatClampNeg ∧ ¬ n < 0 := by
  obtain ⟨a', cell, ha', hat, hv⟩ := Term.length_spec h
  cases ht.symm.trans ha'
  cases (State.arrayAt?_spec hat).1.symm.trans hc
  have hsz : cl.slots.size < 2 ^ 31 := by
    simp only [Term.eval, ht, hat, Option.bind_eq_bind, Option.bind_some] at h
    by_cases hlt : cl.slots.size < 2147483648
    · exact hlt
    · simp [hlt] at h
  cases hv
  refine ⟨?_, ?_⟩
  · simp only [Int32.toNatClampNeg, len_toInt hsz]; rfl
  · rw [Int32.lt_iff_toInt_lt, len_toInt hsz]; show ¬ (cl.slots.size : Int) < 0; omega
end OwnWords
end Jvm.RoadKit
namespace Jvm.Pilot.@@N@@
open Jvm Jvm.ClassFile Sem Op Lib Jvm.Free Jvm.Stand Jvm.LawKit Jvm.RoadKit Bundle Jvm.Pilot.@@N@@.Jvm.D
set_option maxRecDepth 65536
set_option maxHeartbeats 40000000
theorem own_c255 (p : Int32) : ¬ ((255 : Int32) < ((p &&& (255 : Int32)).toUInt32.toUInt16.toUInt32.toInt32)) := by
  have h := c_and p 255 (by decide)
  have h2 := c_i2c (p &&& (255 : Int32))
  have e : (255 : Int32).toInt = 255 := rfl
  rw [Int32.lt_iff_toInt_lt]
  omega
theorem own_n255 (p : Int32) : ¬ ((255 : Int32) < (nar .char ((p &&& (255 : Int32)).toUInt32.toUInt16.toUInt32.toInt32))) := by
  have h := c_and p 255 (by decide)
  have h2 := c_i2c (p &&& (255 : Int32))
  have h3 := c_i2c ((p &&& (255 : Int32)).toUInt32.toUInt16.toUInt32.toInt32)
  have e : (255 : Int32).toInt = 255 := rfl
  show ¬ ((255 : Int32) < ((p &&& (255 : Int32)).toUInt32.toUInt16.toUInt32.toInt32).toUInt32.toUInt16.toUInt32.toInt32)
  rw [Int32.lt_iff_toInt_lt]
  omega
theorem own_zand (x : Int32) : ((0 : Int32) &&& x) = (0 : Int32) := by simp
theorem tw5 : (Jvm.Cond.initialized "java/lang/String") ∈ tables_1 := List.mem_of_getElem? (i := 5) rfl
theorem tw13 : (Jvm.Cond.instantiable "java/lang/String" (4 : Nat)) ∈ tables_1 := List.mem_of_getElem? (i := 13) rfl
theorem tw17 : (Jvm.Cond.arrayClass Jvm.ClassFile.FieldType.byte) ∈ tables_1 := List.mem_of_getElem? (i := 17) rfl
theorem tw26 : (Jvm.Cond.laysFinal "java/lang/String" "java/lang/String" "value" "[B") ∈ tables_1 := List.mem_of_getElem? (i := 26) rfl
theorem tw28 : (Jvm.Cond.laysFinal "java/lang/String" "java/lang/String" "coder" "B") ∈ tables_1 := List.mem_of_getElem? (i := 28) rfl
theorem tw145 : (Jvm.Cond.soleField "java/lang/String" "value") ∈ tables_1 := List.mem_of_getElem? (i := 145) rfl
theorem tw146 : (Jvm.Cond.soleField "java/lang/String" "coder") ∈ tables_1 := List.mem_of_getElem? (i := 146) rfl
theorem own_wS {Z : State} {a0 : Array Value} (hw : ∀ d ∈ tables_1, d.before a0 Z = true) : ∀ a ∈ Bundle.stringAtoms, a.before a0 Z = true := by
  intro a ha
  simp only [Bundle.stringAtoms, List.mem_cons, List.not_mem_nil, or_false] at ha
  rcases ha with rfl | rfl | rfl | rfl | rfl | rfl | rfl
  · exact hw _ tw5
  · exact hw _ tw13
  · exact hw _ tw17
  · exact hw _ tw26
  · exact hw _ tw28
  · exact hw _ tw145
  · exact hw _ tw146
theorem tw144 : (Jvm.Cond.stringLink "java/lang/String" (7 : Nat) "") ∈ tables_1 := List.mem_of_getElem? (i := 144) rfl
def EL0 : List (String × Nat) := [("java/lang/String", 7)]
theorem own_EL {Z : State} {a0 : Array Value} (hw : ∀ d ∈ tables_1, d.before a0 Z = true) : EW Z a0 EL0 := (EW.cons (hw _ tw144) (by decide) EW.nil)
theorem d2_0 : decode jdk_43_method_3_code 0 = .ok (.iload_n 0, 1) := by decide +kernel
theorem d2_1 : decode jdk_43_method_3_code 1 = .ok (.sipush 255, 3) := by decide +kernel
theorem d2_4 : decode jdk_43_method_3_code 4 = .ok (.if_icmp .gt 7, 3) := by decide +kernel
theorem d2_7 : decode jdk_43_method_3_code 7 = .ok (.iconst 1, 1) := by decide +kernel
theorem d2_8 : decode jdk_43_method_3_code 8 = .ok (.goto 4, 3) := by decide +kernel
theorem d2_12 : decode jdk_43_method_3_code 12 = .ok (.ireturn, 1) := by decide +kernel
theorem ef2 (m : MethodId) (x0 : Int32) : entryFrame m #[(.int x0)] 1 = mkF m 0 #[.val (.int x0)] [] := by first | (simp [entryFrame, mkF, argsToLocals, Value.category]; done) | rfl
def Q2 (Z : State) (p0 : Int32) (h0 : Heap) (n0 : Nat) (v : Option Value) (h : Heap) (L : List Loc) : Prop := v = some (.int 1) ∧ Fr n0 L ∧ h = h0
theorem pn6 : plainName "java/lang/StringLatin1" = true := by first | (simp [plainName, overriddenIn]; done) | decide +kernel
theorem rm2 (l : Launch) (Z : State) (a0 : Array Value) (hw : ∀ d ∈ tables_1, d.before a0 Z = true) (ws : List Jvm.Cond) (p0 : Int32) (h0 : Heap) (n0 : Nat) (Z0 : n0 ≤ h0.size) (O0 : Old Z n0 h0) (hcd0 : ¬ ((255 : Int32) < p0)) :
    Met l Z ws (⟨"java/lang/StringLatin1", "canEncode", "(C)Z"⟩ : MethodName) jdk_43_method_3_code 1 (some .boolean) (Rm 0 0 0 0) #[(.int p0)] h0 (Q2 Z p0 h0 n0) := by
  refine Met.enter (L0 := #[.val (.int p0)]) (plainFor_of_name pn6) (fun m => ef2 m p0) ?_
  intro p e s m below meth c s₁ hx hby hml hown hnm hret hlk hZ X0 e0
  have N0 := Fr.nil n0
  have K0 : Keep h0 h0 [] := Keep.refl h0 _
  refine Go.st (t' := s₁.setTop (mkF m 12 #[.val (.int p0)] [(.int 1)])) (fun target kt => ?_) ?_
  · refine XS.iloadN X0.here hx rfl (hb hby d2_0) rfl ?_
    refine XS.sipush X0.here hx rfl (hb hby d2_1) ?_
    refine XS.icmpNo X0.here hx rfl (hb hby d2_4) rfl (flt hcd0).2.2.1 ?_
    refine XS.iconst X0.here hx rfl (hb hby d2_7) ?_
    refine XS.goto X0.here hx rfl (pc0 := 8) (pc' := 12) rfl (hb hby d2_8) (by decide) (by decide) ?_
    exact kt
  refine Go.ret X0 (v := some (.int 1)) (fun h => by rw [hret] at h; cases h) hlk (fun fs hr => retN X0 hx (t := .boolean) hret (by simp) (hb hby d2_12) hr) ?_ (by decide) (by decide)
  show Q2 Z p0 h0 n0 _ s₁.heap _
  rw [e0]
  exact ⟨rfl, N0, rfl⟩
theorem d3_0 : decode jdk_43_method_46_code 0 = .ok (.iconst 1, 1) := by decide +kernel
theorem d3_1 : decode jdk_43_method_46_code 1 = .ok (.newarray .byte, 2) := by decide +kernel
theorem d3_3 : decode jdk_43_method_46_code 3 = .ok (.dup, 1) := by decide +kernel
theorem d3_4 : decode jdk_43_method_46_code 4 = .ok (.iconst 0, 1) := by decide +kernel
theorem d3_5 : decode jdk_43_method_46_code 5 = .ok (.iload_n 0, 1) := by decide +kernel
theorem d3_6 : decode jdk_43_method_46_code 6 = .ok (.i2b, 1) := by decide +kernel
theorem d3_7 : decode jdk_43_method_46_code 7 = .ok (.bastore, 1) := by decide +kernel
theorem d3_8 : decode jdk_43_method_46_code 8 = .ok (.areturn, 1) := by decide +kernel
theorem ef3 (m : MethodId) (x0 : Int32) : entryFrame m #[(.int x0)] 1 = mkF m 0 #[.val (.int x0)] [] := by first | (simp [entryFrame, mkF, argsToLocals, Value.category]; done) | rfl
def Q3 (Z : State) (p0 : Int32) (h0 : Heap) (n0 : Nat) (v : Option Value) (h : Heap) (L : List Loc) : Prop := ∃ (b : Addr) (k : ClassId) (x : Int32), v = some (.ref b) ∧ Fr n0 L ∧ Keep h0 h [] ∧ h0.size ≤ b ∧ Arv Z h b k .byte (1 : Int32) [(.int x)] (.int 0)
theorem rm3 (l : Launch) (Z : State) (a0 : Array Value) (hw : ∀ d ∈ tables_1, d.before a0 Z = true) (ws : List Jvm.Cond) (p0 : Int32) (h0 : Heap) (n0 : Nat) (Z0 : n0 ≤ h0.size) (O0 : Old Z n0 h0) :
    Met l Z ws (⟨"java/lang/StringLatin1", "toBytes", "(C)[B"⟩ : MethodName) jdk_43_method_46_code 1 (some (.array .byte)) (Rm 0 1 1 0) #[(.int p0)] h0 (Q3 Z p0 h0 n0) := by
  refine Met.enter (L0 := #[.val (.int p0)]) (plainFor_of_name pn6) (fun m => ef3 m p0) ?_
  intro p e s m below meth c s₁ hx hby hml hown hnm hret hlk hZ X0 e0
  have N0 := Fr.nil n0
  have K0 : Keep h0 h0 [] := Keep.refl h0 _
  refine Go.st (t' := s₁.setTop (mkF m 1 #[.val (.int p0)] [(.int 1)])) (fun target kt => ?_) ?_
  · refine XS.iconst X0.here hx rfl (hb hby d3_0) ?_
    exact kt
  obtain ⟨T10, h10, k10, X10, e10, E10, A10, B10, st10⟩ := newPE (aty := .byte) X0 hx hZ (hw _ tw17) e0 (g := (mkF m 1 #[.val (.int p0)] [(.int 1)])) rfl (hb hby d3_1) rfl (by decide) (cap := 1) (by decide) (by decide) (by decide) (by decide) (ad := "[B") (by decide)
  obtain ⟨b10, g10⟩ : ∃ z, z = h0.size := ⟨_, rfl⟩
  rw [← g10] at A10 B10 st10
  have lb11 : h0.size ≤ b10 := Nat.le_of_eq g10.symm
  have sz12 : h0.size ≤ b10 := Nat.le_trans K0.1 lb11
  have g13 : n0 ≤ b10 := Nat.le_trans Z0 sz12
  have K14 := K0.ext E10
  have O15 := O0.ext E10
  have V16 : Arv Z h10 b10 k10 .byte (1 : Int32) [(.int 0)] (.int 0) := (Arv.new A10 (by decide)).pad (pad_rep [] (.int 0) 1)
  refine Go.st st10 ?_
  show Go _ _ _ _ _ _ _ (T10.setTop (mkF m 3 _ [(.ref b10)]))
  refine Go.st (t' := T10.setTop (mkF m 7 #[.val (.int p0)] [(.int (p0.toInt8.toInt32)), (.int 0), (.ref b10), (.ref b10)])) (fun target kt => ?_) ?_
  · refine XS.dup X10.here hx rfl (hb hby d3_3) rfl rfl ?_
    refine XS.iconst X10.here hx rfl (hb hby d3_4) ?_
    refine XS.iloadN X10.here hx rfl (hb hby d3_5) rfl ?_
    refine XS.i2b X10.here hx rfl (hb hby d3_6) rfl ?_
    exact kt
  obtain ⟨cl17, Ar17, q17, S17, M17, H17, G17⟩ := id V16
  have hin17 : ¬ ((0 : Int32) < 0 ∨ cl17.slots.size ≤ ((0 : Int32)).toNatClampNeg) := inb_of S17 ⟨by decide, by decide⟩
  obtain ⟨T17, h17, X17, e17, W17, st17⟩ := stB X10 hx hZ e10 Ar17 (j := (0 : Int32)) hin17 (g := (mkF m 7 #[.val (.int p0)] [(.int (p0.toInt8.toInt32)), (.int 0), (.ref b10), (.ref b10)])) rfl rfl (hb hby d3_7)
  have V18 : Arv Z h17 b10 k10 .byte (1 : Int32) [(.int (nar .byte (p0.toInt8.toInt32)))] (.int 0) := Arv.set Ar17 q17 S17 M17 H17 G17 (fits_nar_byte _) W17 0 rfl (Nat.le_of_ble_eq_true rfl)
  have K19 := K14.wr W17 (Or.inr sz12)
  have O20 := O15.wr W17 g13
  have N17 := Fr.snoc X17 N0 g13
  refine Go.st st17 ?_
  show Go _ _ _ _ _ _ _ (T17.setTop (mkF m 8 _ [(.ref b10)]))
  refine Go.ret X17 (v := some (.ref b10)) (fun h => by rw [hret] at h; cases h) hlk (fun fs hr => retR X17 hx hret rfl rfl (hb hby d3_8) hr) ?_ (by decide) (by decide)
  show Q3 Z p0 h0 n0 _ T17.heap _
  rw [e17]
  exact ⟨b10, k10, (nar .byte (p0.toInt8.toInt32)), rfl, N17, K19, sz12, V18⟩
theorem d4_0 : decode jdk_42_method_151_code 0 = .ok (.aload_n 0, 1) := by decide +kernel
theorem d4_1 : decode jdk_42_method_151_code 1 = .ok (.invokespecial 1, 3) := by decide +kernel
theorem tw22 : (Jvm.Cond.methodLink "java/lang/String" (1 : Nat) ({ cls := "java/lang/Object", name := "<init>", desc := "()V" } : Jvm.MethodName)) ∈ tables_1 := List.mem_of_getElem? (i := 22) rfl
theorem tw23 : (Jvm.Cond.instanceMethod ({ cls := "java/lang/Object", name := "<init>", desc := "()V" } : Jvm.MethodName)) ∈ tables_1 := List.mem_of_getElem? (i := 23) rfl
theorem tw24 : (Jvm.Cond.code ({ cls := "java/lang/Object", name := "<init>", desc := "()V" } : Jvm.MethodName) object_method_1_code (1 : Nat) (Option.none : Option Jvm.ClassFile.FieldType)) ∈ tables_1 := List.mem_of_getElem? (i := 24) rfl
theorem d4_4 : decode jdk_42_method_151_code 4 = .ok (.aload_n 0, 1) := by decide +kernel
theorem d4_5 : decode jdk_42_method_151_code 5 = .ok (.aload_n 1, 1) := by decide +kernel
theorem d4_6 : decode jdk_42_method_151_code 6 = .ok (.putfield 9, 3) := by decide +kernel
theorem tw25 : (Jvm.Cond.fieldLink "java/lang/String" (9 : Nat) "java/lang/String" "value" "[B") ∈ tables_1 := List.mem_of_getElem? (i := 25) rfl
theorem d4_9 : decode jdk_42_method_151_code 9 = .ok (.aload_n 0, 1) := by decide +kernel
theorem d4_10 : decode jdk_42_method_151_code 10 = .ok (.iload_n 2, 1) := by decide +kernel
theorem d4_11 : decode jdk_42_method_151_code 11 = .ok (.putfield 15, 3) := by decide +kernel
theorem tw27 : (Jvm.Cond.fieldLink "java/lang/String" (15 : Nat) "java/lang/String" "coder" "B") ∈ tables_1 := List.mem_of_getElem? (i := 27) rfl
theorem d4_14 : decode jdk_42_method_151_code 14 = .ok (.return_, 1) := by decide +kernel
theorem tw96 : (Jvm.Cond.lays "java/lang/String" "java/lang/String" "hash" "I") ∈ tables_1 := List.mem_of_getElem? (i := 96) rfl
theorem tw98 : (Jvm.Cond.lays "java/lang/String" "java/lang/String" "hashIsZero" "Z") ∈ tables_1 := List.mem_of_getElem? (i := 98) rfl
theorem ef4 (m : MethodId) (x0 : Addr) (x1 : Addr) : entryFrame m #[(.ref x0), (.ref x1), (.int 0)] 3 = mkF m 0 #[.val (.ref x0), .val (.ref x1), .val (.int 0)] [] := by first | (simp [entryFrame, mkF, argsToLocals, Value.category]; done) | rfl
def Q4 (Z : State) (a0_ : Addr) (a1_ : Addr) (h0 : Heap) (n0 : Nat) (v : Option Value) (h : Heap) (L : List Loc) : Prop := v = none ∧ Fr n0 L ∧ Keep h0 h [a0_] ∧ Exa Z h a0_ "java/lang/String" ∧ Fld Z h a0_ "java/lang/String" "value" "[B" (.ref a1_) ∧ Fld Z h a0_ "java/lang/String" "coder" "B" (.int 0) ∧ Fld Z h a0_ "java/lang/String" "hash" "I" (.int 0) ∧ Fld Z h a0_ "java/lang/String" "hashIsZero" "Z" (.int 0)
theorem pn24 : plainName "java/lang/String" = true := by first | (simp [plainName, overriddenIn]; done) | decide +kernel
theorem rm4 (l : Launch) (Z : State) (a0 : Array Value) (hw : ∀ d ∈ tables_1, d.before a0 Z = true) (ws : List Jvm.Cond) (a0_ : Addr) (a1_ : Addr) (h0 : Heap) (n0 : Nat) (Z0 : n0 ≤ h0.size) (O0 : Old Z n0 h0) (g0 : n0 ≤ a0_) (E_a0_ : Exa Z h0 a0_ "java/lang/String") (Fv_a0_ : Fld Z h0 a0_ "java/lang/String" "value" "[B" .null) (Fc_a0_ : Fld Z h0 a0_ "java/lang/String" "coder" "B" (.int 0)) (Fh_a0_ : Fld Z h0 a0_ "java/lang/String" "hash" "I" (.int 0)) (Fz_a0_ : Fld Z h0 a0_ "java/lang/String" "hashIsZero" "Z" (.int 0)) :
    Met l Z ws (⟨"java/lang/String", "<init>", "([BB)V"⟩ : MethodName) jdk_42_method_151_code 3 none (Rm 1 0 0 12) #[(.ref a0_), (.ref a1_), (.int 0)] h0 (Q4 Z a0_ a1_ h0 n0) := by
  refine Met.enter (L0 := #[.val (.ref a0_), .val (.ref a1_), .val (.int 0)]) (plainFor_of_name pn24) (fun m => ef4 m a0_ a1_) ?_
  intro p e s m below meth c s₁ hx hby hml hown hnm hret hlk hZ X0 e0
  have N0 := Fr.nil n0
  have K0 : Keep h0 h0 [a0_] := Keep.refl h0 _
  refine Go.st (t' := s₁.setTop (mkF m 1 #[.val (.ref a0_), .val (.ref a1_), .val (.int 0)] [(.ref a0_)])) (fun target kt => ?_) ?_
  · refine XS.aloadN X0.here hx rfl (hb hby d4_0) rfl rfl ?_
    exact kt
  obtain ⟨T10, X10, e10, st10⟩ := initO X0 hx hZ hown (hw _ tw22) (hw _ tw23) (hw _ tw24) e0 (g := (mkF m 1 #[.val (.ref a0_), .val (.ref a1_), .val (.int 0)] [(.ref a0_)])) rfl (by rw [hml]; rfl) rfl (hb hby d4_1) (by decide) (W := 0) (by show 2 * 0 + _ ≤ _; exact Nat.le_of_eq rfl) (by decide)
  refine Go.st st10 ?_
  show Go _ _ _ _ _ _ _ (T10.setTop (mkF m 4 _ []))
  refine Go.st (t' := T10.setTop (mkF m 6 #[.val (.ref a0_), .val (.ref a1_), .val (.int 0)] [(.ref a1_), (.ref a0_)])) (fun target kt => ?_) ?_
  · refine XS.aloadN X10.here hx rfl (hb hby d4_4) rfl rfl ?_
    refine XS.aloadN X10.here hx rfl (hb hby d4_5) rfl rfl ?_
    exact kt
  obtain ⟨T11, h11, X11, e11, W11, st11⟩ := putF X10 hx hZ hown (host := "") (Or.inl (hw _ tw25)) Via.refl e10 Fv_a0_ E_a0_ (Or.inr ⟨(hw _ tw26), rfl, hnm⟩) (hw _ tw13) (ty := (.array .byte)) (by decide) rfl rfl (g := (mkF m 6 #[.val (.ref a0_), .val (.ref a1_), .val (.int 0)] [(.ref a1_), (.ref a0_)])) rfl rfl (hb hby d4_6)
  have F12 : Fld Z h11 a0_ "java/lang/String" "value" "[B" (.ref a1_) := Fv_a0_.same W11
  have K13 := K0.wr W11 (Or.inl (List.mem_of_getElem? (i := 0) rfl))
  have O14 := O0.wr W11 g0
  have N11 := Fr.snoc X11 N0 g0
  refine Go.st st11 ?_
  show Go _ _ _ _ _ _ _ (T11.setTop (mkF m 9 _ []))
  refine Go.st (t' := T11.setTop (mkF m 11 #[.val (.ref a0_), .val (.ref a1_), .val (.int 0)] [(.int 0), (.ref a0_)])) (fun target kt => ?_) ?_
  · refine XS.aloadN X11.here hx rfl (hb hby d4_9) rfl rfl ?_
    refine XS.iloadN X11.here hx rfl (hb hby d4_10) rfl ?_
    exact kt
  have c15 := Fc_a0_.other W11 (Or.inr (slot_ne (Or.inr (hw _ tw28)) (Or.inr (hw _ tw26)) (by decide) (t := .byte) (t' := (.array .byte)) (by decide) (by decide)))
  have c16 := E_a0_.wr W11
  obtain ⟨T17, h17, X17, e17, W17, st17⟩ := putFN X11 hx hZ hown (hw _ tw27) Via.refl e11 c15 c16 (Or.inr ⟨(hw _ tw28), rfl, hnm⟩) (hw _ tw13) (ty := .byte) (v' := (.int 0)) (by decide) rfl (by decide) (g := (mkF m 11 #[.val (.ref a0_), .val (.ref a1_), .val (.int 0)] [(.int 0), (.ref a0_)])) rfl rfl (hb hby d4_11)
  have F18 : Fld Z h17 a0_ "java/lang/String" "coder" "B" (.int 0) := c15.same W17
  have K19 := K13.wr W17 (Or.inl (List.mem_of_getElem? (i := 0) rfl))
  have O20 := O14.wr W17 g0
  have N17 := Fr.snoc X17 N11 g0
  refine Go.st st17 ?_
  show Go _ _ _ _ _ _ _ (T17.setTop (mkF m 14 _ []))
  have c21 := c16.wr W17
  have c22 := F12.other W17 (Or.inr (slot_ne (Or.inr (hw _ tw26)) (Or.inr (hw _ tw28)) (by decide) (t := (.array .byte)) (t' := .byte) (by decide) (by decide)))
  have c23 := (Fh_a0_.other W11 (Or.inr (slot_ne (Or.inl (hw _ tw96)) (Or.inr (hw _ tw26)) (by decide) (t := .int) (t' := (.array .byte)) (by decide) (by decide)))).other W17 (Or.inr (slot_ne (Or.inl (hw _ tw96)) (Or.inr (hw _ tw28)) (by decide) (t := .int) (t' := .byte) (by decide) (by decide)))
  have c24 := (Fz_a0_.other W11 (Or.inr (slot_ne (Or.inl (hw _ tw98)) (Or.inr (hw _ tw26)) (by decide) (t := .boolean) (t' := (.array .byte)) (by decide) (by decide)))).other W17 (Or.inr (slot_ne (Or.inl (hw _ tw98)) (Or.inr (hw _ tw28)) (by decide) (t := .boolean) (t' := .byte) (by decide) (by decide)))
  refine Go.ret X17 (v := none) (fun _ => rfl) hlk (fun fs hr => X17.returnOut hx hret (hb hby d4_14) hr) ?_ (by decide) (by decide)
  show Q4 Z a0_ a1_ h0 n0 _ T17.heap _
  rw [e17]
  exact ⟨rfl, N17, K19, c21, c22, F18, c23, c24⟩
theorem d1_0 : decode jdk_42_method_139_code 0 = .ok (.getstatic 38, 3) := by decide +kernel
theorem tw7 : (Jvm.Cond.fieldLink "java/lang/String" (38 : Nat) "java/lang/String" "COMPACT_STRINGS" "Z") ∈ tables_1 := List.mem_of_getElem? (i := 7) rfl
theorem d1_3 : decode jdk_42_method_139_code 3 = .ok (.ifCond .eq 23, 3) := by decide +kernel
theorem d1_6 : decode jdk_42_method_139_code 6 = .ok (.iload_n 0, 1) := by decide +kernel
theorem d1_7 : decode jdk_42_method_139_code 7 = .ok (.invokestatic 1015, 3) := by decide +kernel
theorem tw8 : (Jvm.Cond.methodLink "java/lang/String" (1015 : Nat) ({ cls := "java/lang/StringLatin1", name := "canEncode", desc := "(C)Z" } : Jvm.MethodName)) ∈ tables_1 := List.mem_of_getElem? (i := 8) rfl
theorem tw11 : (Jvm.Cond.code ({ cls := "java/lang/StringLatin1", name := "canEncode", desc := "(C)Z" } : Jvm.MethodName) jdk_43_method_3_code (1 : Nat) (Option.some Jvm.ClassFile.FieldType.boolean)) ∈ tables_1 := List.mem_of_getElem? (i := 11) rfl
theorem tw10 : (Jvm.Cond.initialized "java/lang/StringLatin1") ∈ tables_1 := List.mem_of_getElem? (i := 10) rfl
theorem pd0 : parseMethodDescriptor "(C)Z" = some ⟨[.char], some .boolean⟩ := by decide +kernel
theorem tw9 : (Jvm.Cond.static ({ cls := "java/lang/StringLatin1", name := "canEncode", desc := "(C)Z" } : Jvm.MethodName)) ∈ tables_1 := List.mem_of_getElem? (i := 9) rfl
theorem d1_10 : decode jdk_42_method_139_code 10 = .ok (.ifCond .eq 16, 3) := by decide +kernel
theorem d1_13 : decode jdk_42_method_139_code 13 = .ok (.new 10, 3) := by decide +kernel
theorem tw12 : (Jvm.Cond.classLink "java/lang/String" (10 : Nat) "java/lang/String") ∈ tables_1 := List.mem_of_getElem? (i := 12) rfl
theorem d1_16 : decode jdk_42_method_139_code 16 = .ok (.dup, 1) := by decide +kernel
theorem d1_17 : decode jdk_42_method_139_code 17 = .ok (.iload_n 0, 1) := by decide +kernel
theorem d1_18 : decode jdk_42_method_139_code 18 = .ok (.invokestatic 1018, 3) := by decide +kernel
theorem tw14 : (Jvm.Cond.methodLink "java/lang/String" (1018 : Nat) ({ cls := "java/lang/StringLatin1", name := "toBytes", desc := "(C)[B" } : Jvm.MethodName)) ∈ tables_1 := List.mem_of_getElem? (i := 14) rfl
theorem tw16 : (Jvm.Cond.code ({ cls := "java/lang/StringLatin1", name := "toBytes", desc := "(C)[B" } : Jvm.MethodName) jdk_43_method_46_code (1 : Nat) (Option.some (Jvm.ClassFile.FieldType.array Jvm.ClassFile.FieldType.byte))) ∈ tables_1 := List.mem_of_getElem? (i := 16) rfl
theorem pd1 : parseMethodDescriptor "(C)[B" = some ⟨[.char], some (.array .byte)⟩ := by decide +kernel
theorem tw15 : (Jvm.Cond.static ({ cls := "java/lang/StringLatin1", name := "toBytes", desc := "(C)[B" } : Jvm.MethodName)) ∈ tables_1 := List.mem_of_getElem? (i := 15) rfl
theorem d1_21 : decode jdk_42_method_139_code 21 = .ok (.iconst 0, 1) := by decide +kernel
theorem d1_22 : decode jdk_42_method_139_code 22 = .ok (.invokespecial 209, 3) := by decide +kernel
theorem tw18 : (Jvm.Cond.methodLink "java/lang/String" (209 : Nat) ({ cls := "java/lang/String", name := "<init>", desc := "([BB)V" } : Jvm.MethodName)) ∈ tables_1 := List.mem_of_getElem? (i := 18) rfl
theorem tw21 : (Jvm.Cond.code ({ cls := "java/lang/String", name := "<init>", desc := "([BB)V" } : Jvm.MethodName) jdk_42_method_151_code (3 : Nat) (Option.none : Option Jvm.ClassFile.FieldType)) ∈ tables_1 := List.mem_of_getElem? (i := 21) rfl
theorem pd2 : parseMethodDescriptor "([BB)V" = some ⟨[(.array .byte), .byte], none⟩ := by decide +kernel
theorem tw19 : (Jvm.Cond.instanceMethod ({ cls := "java/lang/String", name := "<init>", desc := "([BB)V" } : Jvm.MethodName)) ∈ tables_1 := List.mem_of_getElem? (i := 19) rfl
theorem d1_25 : decode jdk_42_method_139_code 25 = .ok (.areturn, 1) := by decide +kernel
theorem ef1 (m : MethodId) (x0 : Int32) : entryFrame m #[(.int x0)] 1 = mkF m 0 #[.val (.int x0)] [] := by first | (simp [entryFrame, mkF, argsToLocals, Value.category]; done) | rfl
def Q1 (Z : State) (p0 : Int32) (wcs : Int32) (h0 : Heap) (n0 : Nat) (v : Option Value) (h : Heap) (L : List Loc) : Prop := ∃ (b : Addr) (bv : Addr) (k : ClassId) (x : Int32), v = some (.ref b) ∧ Fr n0 L ∧ Keep h0 h [] ∧ h0.size ≤ b ∧ h0.size ≤ bv ∧ Exa Z h b "java/lang/String" ∧ Fld Z h b "java/lang/String" "value" "[B" (.ref bv) ∧ Fld Z h b "java/lang/String" "coder" "B" (.int 0) ∧ Fld Z h b "java/lang/String" "hash" "I" (.int 0) ∧ Fld Z h b "java/lang/String" "hashIsZero" "Z" (.int 0) ∧ Arv Z h bv k .byte (1 : Int32) [(.int x)] (.int 0)
theorem rm1 (l : Launch) (Z : State) (a0 : Array Value) (hw : ∀ d ∈ tables_1, d.before a0 Z = true) (ws : List Jvm.Cond) (p0 : Int32) (wcs : Int32) (h0 : Heap) (n0 : Nat) (Z0 : n0 ≤ h0.size) (O0 : Old Z n0 h0) (S_CS : Sta Z Z.heap "java/lang/String" "COMPACT_STRINGS" "Z" (.int wcs)) (hcs : ¬ (wcs = (0 : Int32))) (hcd0 : ¬ ((255 : Int32) < p0)) :
    Met l Z ws (⟨"java/lang/String", "valueOf", "(C)Ljava/lang/String;"⟩ : MethodName) jdk_42_method_139_code 1 (some (.object "java/lang/String")) (Rm 2 2 5 27) #[(.int p0)] h0 (Q1 Z p0 wcs h0 n0) := by
  refine Met.enter (L0 := #[.val (.int p0)]) (plainFor_of_name pn24) (fun m => ef1 m p0) ?_
  intro p e s m below meth c s₁ hx hby hml hown hnm hret hlk hZ X0 e0
  have N0 := Fr.nil n0
  have K0 : Keep h0 h0 [] := Keep.refl h0 _
  obtain ⟨T10, X10, e10, st10⟩ := getS2 X0 hx hZ hown (host := "") (Or.inl (hw _ tw7)) Via.refl e0 (S_CS.ext O0.2) (g := (mkF m 0 #[.val (.int p0)] [])) rfl (hb hby d1_0)
  refine Go.st st10 ?_
  show Go _ _ _ _ _ _ _ (T10.setTop (mkF m 3 _ [(.int wcs)]))
  refine Go.st (t' := T10.setTop (mkF m 7 #[.val (.int p0)] [(.int p0)])) (fun target kt => ?_) ?_
  · refine XS.ifNo X10.here hx rfl (hb hby d1_3) rfl ((if0 _ _).trans (feq hcs).1) ?_
    refine XS.iloadN X10.here hx rfl (hb hby d1_6) rfl ?_
    exact kt
  obtain ⟨_, _, ⟨T11, L11, k11, n11⟩, -, X11, ⟨Lc11, hQ11, l11, y11, z11⟩, st11⟩ := Jvm.LawKit.callS X10 hx (y := (⟨"java/lang/StringLatin1", "canEncode", "(C)Z"⟩ : MethodName)) hown (mvT hZ (hw _ tw8)) (mvT hZ (hw _ tw9)) (mvT hZ (hw _ tw10)) (mvT hZ (hw _ tw11)) (by decide) (backOf (W := 0) (rm2 l Z a0 hw [] p0 h0 n0 (Nat.le_trans Z0 K0.1) O0  hcd0) hZ (hw _ tw11) (hw _ tw10) (by decide) (by decide)) (g := (mkF m 7 #[.val (.int p0)] [(.int p0)])) rfl (by rw [hml]; rfl) (argsL := [(.int p0)]) (rest := []) (lenOf pd0 rfl) rfl (by show 2 * 0 + _ ≤ _; exact Nat.le_of_eq rfl) (hb hby d1_7) (fun _ _ => ⟨rfl, e10, (by decide : 0 + 0 ≤ _), (by decide : 0 + 0 ≤ _)⟩)
  dsimp only [Pt.U, Pt.locs, Pt.cells, Pt.slots] at X11 l11 y11 z11 st11 hQ11
  subst l11 y11 z11
  obtain ⟨rfl, Nq11, eq11⟩ := hQ11
  have N11 := Fr.app N0 Nq11
  refine Go.st st11 ?_
  show Go _ _ _ _ _ _ _ (T11.setTop (mkF m 10 _ [(.int 1)]))
  refine Go.st (t' := T11.setTop (mkF m 13 #[.val (.int p0)] [])) (fun target kt => ?_) ?_
  · refine XS.ifNo X11.here hx rfl (hb hby d1_10) rfl ((if0 _ _).trans (feq (by decide : ¬ ((1 : Int32) = (0 : Int32)))).1) ?_
    exact kt
  obtain ⟨T12, h12, X12, e12, E12, A12, D12, -, st12⟩ := newO X11 hx hZ hown (hw _ tw12) (hw _ tw13) (hw _ tw5) eq11 (g := (mkF m 13 #[.val (.int p0)] [])) rfl (hb hby d1_13) (by decide) (by decide)
  obtain ⟨b12, g12⟩ : ∃ z, z = h0.size := ⟨_, rfl⟩
  rw [← g12] at A12 D12 st12
  have lb13 : h0.size ≤ b12 := Nat.le_of_eq g12.symm
  have sz14 : h0.size ≤ b12 := Nat.le_trans K0.1 lb13
  have g15 : n0 ≤ b12 := Nat.le_trans Z0 sz14
  have K16 := K0.ext E12
  have O17 := O0.ext E12
  have F18 : Fld Z h12 b12 "java/lang/String" "value" "[B" .null := D12 (Or.inr (hw _ tw26)) (ty := (.array .byte)) (by decide)
  have F19 : Fld Z h12 b12 "java/lang/String" "coder" "B" (.int 0) := D12 (Or.inr (hw _ tw28)) (ty := .byte) (by decide)
  have F20 : Fld Z h12 b12 "java/lang/String" "hash" "I" (.int 0) := D12 (Or.inl (hw _ tw96)) (ty := .int) (by decide)
  have F21 : Fld Z h12 b12 "java/lang/String" "hashIsZero" "Z" (.int 0) := D12 (Or.inl (hw _ tw98)) (ty := .boolean) (by decide)
  refine Go.st st12 ?_
  show Go _ _ _ _ _ _ _ (T12.setTop (mkF m 16 _ [(.ref b12)]))
  refine Go.st (t' := T12.setTop (mkF m 18 #[.val (.int p0)] [(.int p0), (.ref b12), (.ref b12)])) (fun target kt => ?_) ?_
  · refine XS.dup X12.here hx rfl (hb hby d1_16) rfl rfl ?_
    refine XS.iloadN X12.here hx rfl (hb hby d1_17) rfl ?_
    exact kt
  obtain ⟨_, _, ⟨T22, L22, k22, n22⟩, -, X22, ⟨Lc22, hQ22, l22, y22, z22⟩, st22⟩ := Jvm.LawKit.callS X12 hx (y := (⟨"java/lang/StringLatin1", "toBytes", "(C)[B"⟩ : MethodName)) hown (mvT hZ (hw _ tw14)) (mvT hZ (hw _ tw15)) (mvT hZ (hw _ tw10)) (mvT hZ (hw _ tw16)) (by decide) (backOf (W := 2) (rm3 l Z a0 hw [] p0 h12 n0 (Nat.le_trans Z0 K16.1) O17  ) hZ (hw _ tw16) (hw _ tw10) (by decide) (by decide)) (g := (mkF m 18 #[.val (.int p0)] [(.int p0), (.ref b12), (.ref b12)])) rfl (by rw [hml]; rfl) (argsL := [(.int p0)]) (rest := [(.ref b12), (.ref b12)]) (lenOf pd1 rfl) rfl (by show 2 * 0 + _ ≤ _; exact Nat.le_of_eq rfl) (hb hby d1_18) (fun _ _ => ⟨rfl, e12, (by decide : 1 + 1 ≤ _), (by decide : 4 + 1 ≤ _)⟩)
  dsimp only [Pt.U, Pt.locs, Pt.cells, Pt.slots] at X22 l22 y22 z22 st22 hQ22
  subst l22 y22 z22
  obtain ⟨b23, k24, i25, rfl, Nq22, Kq22, q26, q27⟩ := hQ22
  have N22 := Fr.app N11 Nq22
  have sz28 : h0.size ≤ b23 := Nat.le_trans K16.1 q26
  have g29 : n0 ≤ b23 := Nat.le_trans Z0 sz28
  have K30 := K16.trans Kq22 all0
  have O31 := O17.keep Kq22 all0
  refine Go.st st22 ?_
  show Go _ _ _ _ _ _ _ (T22.setTop (mkF m 21 _ [(.ref b23), (.ref b12), (.ref b12)]))
  refine Go.st (t' := T22.setTop (mkF m 22 #[.val (.int p0)] [(.int 0), (.ref b23), (.ref b12), (.ref b12)])) (fun target kt => ?_) ?_
  · refine XS.iconst X22.here hx rfl (hb hby d1_21) ?_
    exact kt
  have c32 := A12.keep Kq22
  have c33 := F18.keep Kq22 nin0
  have c34 := F19.keep Kq22 nin0
  have c35 := F20.keep Kq22 nin0
  have c36 := F21.keep Kq22 nin0
  obtain ⟨_, _, ⟨T37, L37, k37, n37⟩, -, X37, ⟨Lc37, hQ37, l37, y37, z37⟩, st37⟩ := X22.specialBack hx (y := (⟨"java/lang/String", "<init>", "([BB)V"⟩ : MethodName)) rfl hown (mvT hZ (hw _ tw18)) (mvT hZ (hw _ tw19)) (mvT hZ (hw _ tw21)) (by decide) (backOf (W := 1) (rm4 l Z a0 hw [] b12 b23 T22.heap n0 (Nat.le_trans Z0 K30.1) O31  g15 c32 c33 c34 c35 c36) hZ (hw _ tw21) (hw _ tw5) (by decide) (by decide)) (g := (mkF m 22 #[.val (.int p0)] [(.int 0), (.ref b23), (.ref b12), (.ref b12)])) rfl (by rw [hml]; rfl) (Steps.refl _) (a := b12) (argsL := [(.ref b23), (.int 0)]) (rest := [(.ref b12)]) (lenOf pd2 rfl) rfl (by show 2 * 0 + _ ≤ _; exact Nat.le_of_eq rfl) (hb hby d1_22) (fun _ _ => ⟨rfl, rfl, (by decide : 2 + 0 ≤ _), (by decide : 5 + 0 ≤ _)⟩)
  dsimp only [Pt.U, Pt.locs, Pt.cells, Pt.slots] at X37 l37 y37 z37 st37 hQ37
  subst l37 y37 z37
  obtain ⟨rfl, Nq37, Kq37, q38, q39, q40, q41, q42⟩ := hQ37
  have N37 := Fr.app N22 Nq37
  have K43 := K30.trans Kq37 (allS (Or.inr sz14) all0)
  have O44 := O31.keep Kq37 (allS g15 all0)
  refine Go.by st37 ?_
  show Go _ _ _ _ _ _ _ (T37.setTop (mkF m 25 _ [(.ref b12)]))
  have o45 : b12 < b23 := Nat.lt_of_lt_of_le A12.lt q26
  have ne46 : b12 ≠ b23 := Nat.ne_of_lt o45
  have c47 := q27.keep Kq37 (ninS (Ne.symm ne46) nin0)
  refine Go.ret X37 (v := some (.ref b12)) (fun h => by rw [hret] at h; cases h) hlk (fun fs hr => retR X37 hx hret rfl rfl (hb hby d1_25) hr) ?_ (by decide) (by decide)
  show Q1 Z p0 wcs h0 n0 _ T37.heap _
  exact ⟨b12, b23, k24, i25, rfl, N37, K43, sz14, (by first | assumption | decide | omega), q38, q39, q40, q41, q42, c47⟩
theorem d21_0 : decode jdk_52_method_21_code 0 = .ok (.iconst 0, 1) := by decide +kernel
theorem d21_1 : decode jdk_52_method_21_code 1 = .ok (.istore 5, 2) := by decide +kernel
theorem d21_3 : decode jdk_52_method_21_code 3 = .ok (.iload 5, 2) := by decide +kernel
theorem d21_5 : decode jdk_52_method_21_code 5 = .ok (.iload 4, 2) := by decide +kernel
theorem d21_7 : decode jdk_52_method_21_code 7 = .ok (.if_icmp .ge 37, 3) := by decide +kernel
theorem d21_10 : decode jdk_52_method_21_code 10 = .ok (.aload_n 0, 1) := by decide +kernel
theorem d21_11 : decode jdk_52_method_21_code 11 = .ok (.iload_n 1, 1) := by decide +kernel
theorem d21_12 : decode jdk_52_method_21_code 12 = .ok (.caload, 1) := by decide +kernel
theorem d21_13 : decode jdk_52_method_21_code 13 = .ok (.istore 6, 2) := by decide +kernel
theorem d21_15 : decode jdk_52_method_21_code 15 = .ok (.iload 6, 2) := by decide +kernel
theorem d21_17 : decode jdk_52_method_21_code 17 = .ok (.sipush 255, 3) := by decide +kernel
theorem d21_20 : decode jdk_52_method_21_code 20 = .ok (.if_icmp .le 6, 3) := by decide +kernel
theorem d21_26 : decode jdk_52_method_21_code 26 = .ok (.aload_n 2, 1) := by decide +kernel
theorem d21_27 : decode jdk_52_method_21_code 27 = .ok (.iload_n 3, 1) := by decide +kernel
theorem d21_28 : decode jdk_52_method_21_code 28 = .ok (.iload 6, 2) := by decide +kernel
theorem d21_30 : decode jdk_52_method_21_code 30 = .ok (.i2b, 1) := by decide +kernel
theorem d21_31 : decode jdk_52_method_21_code 31 = .ok (.bastore, 1) := by decide +kernel
theorem d21_32 : decode jdk_52_method_21_code 32 = .ok (.iinc 1 1, 3) := by decide +kernel
theorem d21_35 : decode jdk_52_method_21_code 35 = .ok (.iinc 3 1, 3) := by decide +kernel
theorem d21_38 : decode jdk_52_method_21_code 38 = .ok (.iinc 5 1, 3) := by decide +kernel
theorem d21_41 : decode jdk_52_method_21_code 41 = .ok (.goto (-38), 3) := by decide +kernel
theorem d21_44 : decode jdk_52_method_21_code 44 = .ok (.iload 4, 2) := by decide +kernel
theorem d21_46 : decode jdk_52_method_21_code 46 = .ok (.ireturn, 1) := by decide +kernel
theorem ef21_2 (m : MethodId) (x0 : Addr) (x2 : Addr) : entryFrame m #[(.ref x0), (.int 0), (.ref x2), (.int 0), (.int 2)] 7 = mkF m 0 #[.val (.ref x0), .val (.int 0), .val (.ref x2), .val (.int 0), .val (.int 2), .unset, .unset] [] := by first | (simp [entryFrame, mkF, argsToLocals, Value.category]; done) | rfl
def Q21_2 (Z : State) (a0_ : Addr) (a2_ : Addr) (kc : ClassId) (c0 : Int32) (c1 : Int32) (kb : ClassId) (h0 : Heap) (n0 : Nat) (v : Option Value) (h : Heap) (L : List Loc) : Prop := ∃ (z0 : Int32) (z1 : Int32), v = some (.int 2) ∧ Fr n0 L ∧ Keep h0 h [a2_] ∧ Arv Z h a2_ kb .byte (2 : Int32) [(.int z0), (.int z1)] (.int 0)
theorem pn60 : plainName "java/lang/StringUTF16" = true := by first | (simp [plainName, overriddenIn]; done) | decide +kernel
theorem rm21_2 (l : Launch) (Z : State) (a0 : Array Value) (hw : ∀ d ∈ tables_1, d.before a0 Z = true) (ws : List Jvm.Cond) (a0_ : Addr) (a2_ : Addr) (kc : ClassId) (c0 : Int32) (c1 : Int32) (kb : ClassId) (h0 : Heap) (n0 : Nat) (Z0 : n0 ≤ h0.size) (O0 : Old Z n0 h0) (Vc : Arv Z h0 a0_ kc .char (2 : Int32) [(.int c0), (.int c1)] (.int 0)) (Vb : Arv Z h0 a2_ kb .byte (2 : Int32) [(.int 0), (.int 0)] (.int 0)) (g2 : n0 ≤ a2_) (hne : a0_ ≠ a2_) (hcd0 : ¬ ((255 : Int32) < c0)) (hcd1 : ¬ ((255 : Int32) < c1)) :
    Met l Z ws (⟨"java/lang/StringUTF16", "compress", "([CI[BII)I"⟩ : MethodName) jdk_52_method_21_code 7 (some .int) (Rm 0 0 0 0) #[(.ref a0_), (.int 0), (.ref a2_), (.int 0), (.int 2)] h0 (Q21_2 Z a0_ a2_ kc c0 c1 kb h0 n0) := by
  refine Met.enter (L0 := #[.val (.ref a0_), .val (.int 0), .val (.ref a2_), .val (.int 0), .val (.int 2), .unset, .unset]) (plainFor_of_name pn60) (fun m => ef21_2 m a0_ a2_) ?_
  intro p e s m below meth c s₁ hx hby hml hown hnm hret hlk hZ X0 e0
  have N0 := Fr.nil n0
  have K0 : Keep h0 h0 [a2_] := Keep.refl h0 _
  obtain ⟨cl10, Ar10, -, S10, M10, H10, -⟩ := id Vc
  have hin10 : ¬ ((0 : Int32) < 0 ∨ cl10.slots.size ≤ ((0 : Int32)).toNatClampNeg) := inb_of S10 ⟨by decide, by decide⟩
  have hat10 : cl10.slots[((0 : Int32)).toNatClampNeg]? = some (.int c0) := H10.at hin10 rfl
  refine Go.st (t' := s₁.setTop (mkF m 31 #[.val (.ref a0_), .val (.int 0), .val (.ref a2_), .val (.int 0), .val (.int 2), .val (.int 0), .val (.int c0)] [(.int (c0.toInt8.toInt32)), (.int 0), (.ref a2_)])) (fun target kt => ?_) ?_
  · refine XS.iconst X0.here hx rfl (hb hby d21_0) ?_
    refine XS.istore X0.here hx rfl (hb hby d21_1) rfl (l' := #[.val (.ref a0_), .val (.int 0), .val (.ref a2_), .val (.int 0), .val (.int 2), .val (.int 0), .unset]) rfl ?_
    refine XS.iload X0.here hx rfl (hb hby d21_3) rfl ?_
    refine XS.iload X0.here hx rfl (hb hby d21_5) rfl ?_
    refine XS.icmpNo X0.here hx rfl (hb hby d21_7) rfl (tlt (by decide : (0 : Int32) < (2 : Int32))).2.1 ?_
    refine XS.aloadN X0.here hx rfl (hb hby d21_10) rfl rfl ?_
    refine XS.iloadN X0.here hx rfl (hb hby d21_11) rfl ?_
    refine X0.caload hx (j := (0 : Int32)) (v := (.int c0)) (by rw [e0]; exact Ar10.1) (State.isArrayOf_alike hZ.alike Ar10.2.1) Ar10.2.2 hin10 hat10 (g := (mkF m 12 #[.val (.ref a0_), .val (.int 0), .val (.ref a2_), .val (.int 0), .val (.int 2), .val (.int 0), .unset] [(.int 0), (.ref a0_)])) rfl rfl (hb hby d21_12) _ ?_
    refine XS.istore X0.here hx rfl (hb hby d21_13) rfl (l' := #[.val (.ref a0_), .val (.int 0), .val (.ref a2_), .val (.int 0), .val (.int 2), .val (.int 0), .val (.int c0)]) rfl ?_
    refine XS.iload X0.here hx rfl (hb hby d21_15) rfl ?_
    refine XS.sipush X0.here hx rfl (hb hby d21_17) ?_
    refine XS.icmpYes X0.here hx rfl (pc0 := 20) (pc' := 26) rfl (hb hby d21_20) rfl (flt hcd0).2.2.2 (by decide) (by decide) ?_
    refine XS.aloadN X0.here hx rfl (hb hby d21_26) rfl rfl ?_
    refine XS.iloadN X0.here hx rfl (hb hby d21_27) rfl ?_
    refine XS.iload X0.here hx rfl (hb hby d21_28) rfl ?_
    refine XS.i2b X0.here hx rfl (hb hby d21_30) rfl ?_
    exact kt
  obtain ⟨cl11, Ar11, q11, S11, M11, H11, G11⟩ := id Vb
  have hin11 : ¬ ((0 : Int32) < 0 ∨ cl11.slots.size ≤ ((0 : Int32)).toNatClampNeg) := inb_of S11 ⟨by decide, by decide⟩
  obtain ⟨T11, h11, X11, e11, W11, st11⟩ := stB X0 hx hZ e0 Ar11 (j := (0 : Int32)) hin11 (g := (mkF m 31 #[.val (.ref a0_), .val (.int 0), .val (.ref a2_), .val (.int 0), .val (.int 2), .val (.int 0), .val (.int c0)] [(.int (c0.toInt8.toInt32)), (.int 0), (.ref a2_)])) rfl rfl (hb hby d21_31)
  have V12 : Arv Z h11 a2_ kb .byte (2 : Int32) [(.int (nar .byte (c0.toInt8.toInt32))), (.int 0)] (.int 0) := Arv.set Ar11 q11 S11 M11 H11 G11 (fits_nar_byte _) W11 0 rfl (Nat.le_of_ble_eq_true rfl)
  have K13 := K0.wr W11 (Or.inl (List.mem_of_getElem? (i := 0) rfl))
  have O14 := O0.wr W11 g2
  have N11 := Fr.snoc X11 N0 g2
  refine Go.st st11 ?_
  show Go _ _ _ _ _ _ _ (T11.setTop (mkF m 32 _ []))
  have c15 := Vc.other W11 hne
  obtain ⟨cl16, Ar16, -, S16, M16, H16, -⟩ := id c15
  have hin16 : ¬ ((1 : Int32) < 0 ∨ cl16.slots.size ≤ ((1 : Int32)).toNatClampNeg) := inb_of S16 ⟨by decide, by decide⟩
  have hat16 : cl16.slots[((1 : Int32)).toNatClampNeg]? = some (.int c1) := H16.at hin16 rfl
  refine Go.st (t' := T11.setTop (mkF m 31 #[.val (.ref a0_), .val (.int 1), .val (.ref a2_), .val (.int 1), .val (.int 2), .val (.int 1), .val (.int c1)] [(.int (c1.toInt8.toInt32)), (.int 1), (.ref a2_)])) (fun target kt => ?_) ?_
  · refine XS.iinc X11.here hx rfl (hb hby d21_32) rfl (l' := #[.val (.ref a0_), .val (.int 1), .val (.ref a2_), .val (.int 0), .val (.int 2), .val (.int 0), .val (.int c0)]) rfl ?_
    refine XS.iinc X11.here hx rfl (hb hby d21_35) rfl (l' := #[.val (.ref a0_), .val (.int 1), .val (.ref a2_), .val (.int 1), .val (.int 2), .val (.int 0), .val (.int c0)]) rfl ?_
    refine XS.iinc X11.here hx rfl (hb hby d21_38) rfl (l' := #[.val (.ref a0_), .val (.int 1), .val (.ref a2_), .val (.int 1), .val (.int 2), .val (.int 1), .val (.int c0)]) rfl ?_
    refine XS.goto X11.here hx rfl (pc0 := 41) (pc' := 3) rfl (hb hby d21_41) (by decide) (by decide) ?_
    refine XS.iload X11.here hx rfl (hb hby d21_3) rfl ?_
    refine XS.iload X11.here hx rfl (hb hby d21_5) rfl ?_
    refine XS.icmpNo X11.here hx rfl (hb hby d21_7) rfl (tlt (by decide : (1 : Int32) < (2 : Int32))).2.1 ?_
    refine XS.aloadN X11.here hx rfl (hb hby d21_10) rfl rfl ?_
    refine XS.iloadN X11.here hx rfl (hb hby d21_11) rfl ?_
    refine X11.caload hx (j := (1 : Int32)) (v := (.int c1)) (by rw [e11]; exact Ar16.1) (State.isArrayOf_alike hZ.alike Ar16.2.1) Ar16.2.2 hin16 hat16 (g := (mkF m 12 #[.val (.ref a0_), .val (.int 1), .val (.ref a2_), .val (.int 1), .val (.int 2), .val (.int 1), .val (.int c0)] [(.int 1), (.ref a0_)])) rfl rfl (hb hby d21_12) _ ?_
    refine XS.istore X11.here hx rfl (hb hby d21_13) rfl (l' := #[.val (.ref a0_), .val (.int 1), .val (.ref a2_), .val (.int 1), .val (.int 2), .val (.int 1), .val (.int c1)]) rfl ?_
    refine XS.iload X11.here hx rfl (hb hby d21_15) rfl ?_
    refine XS.sipush X11.here hx rfl (hb hby d21_17) ?_
    refine XS.icmpYes X11.here hx rfl (pc0 := 20) (pc' := 26) rfl (hb hby d21_20) rfl (flt hcd1).2.2.2 (by decide) (by decide) ?_
    refine XS.aloadN X11.here hx rfl (hb hby d21_26) rfl rfl ?_
    refine XS.iloadN X11.here hx rfl (hb hby d21_27) rfl ?_
    refine XS.iload X11.here hx rfl (hb hby d21_28) rfl ?_
    refine XS.i2b X11.here hx rfl (hb hby d21_30) rfl ?_
    exact kt
  obtain ⟨cl17, Ar17, q17, S17, M17, H17, G17⟩ := id V12
  have hin17 : ¬ ((1 : Int32) < 0 ∨ cl17.slots.size ≤ ((1 : Int32)).toNatClampNeg) := inb_of S17 ⟨by decide, by decide⟩
  obtain ⟨T17, h17, X17, e17, W17, st17⟩ := stB X11 hx hZ e11 Ar17 (j := (1 : Int32)) hin17 (g := (mkF m 31 #[.val (.ref a0_), .val (.int 1), .val (.ref a2_), .val (.int 1), .val (.int 2), .val (.int 1), .val (.int c1)] [(.int (c1.toInt8.toInt32)), (.int 1), (.ref a2_)])) rfl rfl (hb hby d21_31)
  have V18 : Arv Z h17 a2_ kb .byte (2 : Int32) [(.int (nar .byte (c0.toInt8.toInt32))), (.int (nar .byte (c1.toInt8.toInt32)))] (.int 0) := Arv.set Ar17 q17 S17 M17 H17 G17 (fits_nar_byte _) W17 1 rfl (Nat.le_of_ble_eq_true rfl)
  have K19 := K13.wr W17 (Or.inl (List.mem_of_getElem? (i := 0) rfl))
  have O20 := O14.wr W17 g2
  have N17 := Fr.snoc X17 N11 g2
  refine Go.st st17 ?_
  show Go _ _ _ _ _ _ _ (T17.setTop (mkF m 32 _ []))
  refine Go.st (t' := T17.setTop (mkF m 46 #[.val (.ref a0_), .val (.int 2), .val (.ref a2_), .val (.int 2), .val (.int 2), .val (.int 2), .val (.int c1)] [(.int 2)])) (fun target kt => ?_) ?_
  · refine XS.iinc X17.here hx rfl (hb hby d21_32) rfl (l' := #[.val (.ref a0_), .val (.int 2), .val (.ref a2_), .val (.int 1), .val (.int 2), .val (.int 1), .val (.int c1)]) rfl ?_
    refine XS.iinc X17.here hx rfl (hb hby d21_35) rfl (l' := #[.val (.ref a0_), .val (.int 2), .val (.ref a2_), .val (.int 2), .val (.int 2), .val (.int 1), .val (.int c1)]) rfl ?_
    refine XS.iinc X17.here hx rfl (hb hby d21_38) rfl (l' := #[.val (.ref a0_), .val (.int 2), .val (.ref a2_), .val (.int 2), .val (.int 2), .val (.int 2), .val (.int c1)]) rfl ?_
    refine XS.goto X17.here hx rfl (pc0 := 41) (pc' := 3) rfl (hb hby d21_41) (by decide) (by decide) ?_
    refine XS.iload X17.here hx rfl (hb hby d21_3) rfl ?_
    refine XS.iload X17.here hx rfl (hb hby d21_5) rfl ?_
    refine XS.icmpYes X17.here hx rfl (pc0 := 7) (pc' := 44) rfl (hb hby d21_7) rfl (flt (by decide : ¬ ((2 : Int32) < (2 : Int32)))).2.1 (by decide) (by decide) ?_
    refine XS.iload X17.here hx rfl (hb hby d21_44) rfl ?_
    exact kt
  refine Go.ret X17 (v := some (.int 2)) (fun h => by rw [hret] at h; cases h) hlk (fun fs hr => retI X17 hx hret (hb hby d21_46) hr) ?_ (by decide) (by decide)
  show Q21_2 Z a0_ a2_ kc c0 c1 kb h0 n0 _ T17.heap _
  rw [e17]
  exact ⟨(nar .byte (c0.toInt8.toInt32)), (nar .byte (c1.toInt8.toInt32)), rfl, N17, K19, V18⟩
theorem d20_0 : decode jdk_52_method_16_code 0 = .ok (.iload_n 2, 1) := by decide +kernel
theorem d20_1 : decode jdk_52_method_16_code 1 = .ok (.newarray .byte, 2) := by decide +kernel
theorem d20_3 : decode jdk_52_method_16_code 3 = .ok (.astore_n 3, 1) := by decide +kernel
theorem d20_4 : decode jdk_52_method_16_code 4 = .ok (.aload_n 0, 1) := by decide +kernel
theorem d20_5 : decode jdk_52_method_16_code 5 = .ok (.iload_n 1, 1) := by decide +kernel
theorem d20_6 : decode jdk_52_method_16_code 6 = .ok (.aload_n 3, 1) := by decide +kernel
theorem d20_7 : decode jdk_52_method_16_code 7 = .ok (.iconst 0, 1) := by decide +kernel
theorem d20_8 : decode jdk_52_method_16_code 8 = .ok (.iload_n 2, 1) := by decide +kernel
theorem d20_9 : decode jdk_52_method_16_code 9 = .ok (.invokestatic 115, 3) := by decide +kernel
theorem tw133 : (Jvm.Cond.methodLink "java/lang/StringUTF16" (115 : Nat) ({ cls := "java/lang/StringUTF16", name := "compress", desc := "([CI[BII)I" } : Jvm.MethodName)) ∈ tables_1 := List.mem_of_getElem? (i := 133) rfl
theorem tw135 : (Jvm.Cond.code ({ cls := "java/lang/StringUTF16", name := "compress", desc := "([CI[BII)I" } : Jvm.MethodName) jdk_52_method_21_code (7 : Nat) (Option.some Jvm.ClassFile.FieldType.int)) ∈ tables_1 := List.mem_of_getElem? (i := 135) rfl
theorem tw131 : (Jvm.Cond.initialized "java/lang/StringUTF16") ∈ tables_1 := List.mem_of_getElem? (i := 131) rfl
theorem pd3 : parseMethodDescriptor "([CI[BII)I" = some ⟨[(.array .char), .int, (.array .byte), .int, .int], some .int⟩ := by decide +kernel
theorem tw134 : (Jvm.Cond.static ({ cls := "java/lang/StringUTF16", name := "compress", desc := "([CI[BII)I" } : Jvm.MethodName)) ∈ tables_1 := List.mem_of_getElem? (i := 134) rfl
theorem d20_12 : decode jdk_52_method_16_code 12 = .ok (.istore 4, 2) := by decide +kernel
theorem d20_14 : decode jdk_52_method_16_code 14 = .ok (.iload 4, 2) := by decide +kernel
theorem d20_16 : decode jdk_52_method_16_code 16 = .ok (.iload_n 2, 1) := by decide +kernel
theorem d20_17 : decode jdk_52_method_16_code 17 = .ok (.if_icmp .eq 40, 3) := by decide +kernel
theorem d20_57 : decode jdk_52_method_16_code 57 = .ok (.aload_n 3, 1) := by decide +kernel
theorem d20_58 : decode jdk_52_method_16_code 58 = .ok (.areturn, 1) := by decide +kernel
theorem ef20_2 (m : MethodId) (x0 : Addr) : entryFrame m #[(.ref x0), (.int 0), (.int 2)] 6 = mkF m 0 #[.val (.ref x0), .val (.int 0), .val (.int 2), .unset, .unset, .unset] [] := by first | (simp [entryFrame, mkF, argsToLocals, Value.category]; done) | rfl
def Q20_2 (Z : State) (a0_ : Addr) (kc : ClassId) (c0 : Int32) (c1 : Int32) (h0 : Heap) (n0 : Nat) (v : Option Value) (h : Heap) (L : List Loc) : Prop := ∃ (b : Addr) (kb : ClassId) (z0 : Int32) (z1 : Int32), v = some (.ref b) ∧ Fr n0 L ∧ Keep h0 h [] ∧ h0.size ≤ b ∧ Arv Z h b kb .byte (2 : Int32) [(.int z0), (.int z1)] (.int 0)
theorem rm20_2 (l : Launch) (Z : State) (a0 : Array Value) (hw : ∀ d ∈ tables_1, d.before a0 Z = true) (ws : List Jvm.Cond) (a0_ : Addr) (kc : ClassId) (c0 : Int32) (c1 : Int32) (h0 : Heap) (n0 : Nat) (Z0 : n0 ≤ h0.size) (O0 : Old Z n0 h0) (Vc : Arv Z h0 a0_ kc .char (2 : Int32) [(.int c0), (.int c1)] (.int 0)) (hcd0 : ¬ ((255 : Int32) < c0)) (hcd1 : ¬ ((255 : Int32) < c1)) :
    Met l Z ws (⟨"java/lang/StringUTF16", "compress", "([CII)[B"⟩ : MethodName) jdk_52_method_16_code 6 (some (.array .byte)) (Rm 1 1 2 18) #[(.ref a0_), (.int 0), (.int 2)] h0 (Q20_2 Z a0_ kc c0 c1 h0 n0) := by
  refine Met.enter (L0 := #[.val (.ref a0_), .val (.int 0), .val (.int 2), .unset, .unset, .unset]) (plainFor_of_name pn60) (fun m => ef20_2 m a0_) ?_
  intro p e s m below meth c s₁ hx hby hml hown hnm hret hlk hZ X0 e0
  have N0 := Fr.nil n0
  have K0 : Keep h0 h0 [] := Keep.refl h0 _
  refine Go.st (t' := s₁.setTop (mkF m 1 #[.val (.ref a0_), .val (.int 0), .val (.int 2), .unset, .unset, .unset] [(.int 2)])) (fun target kt => ?_) ?_
  · refine XS.iloadN X0.here hx rfl (hb hby d20_0) rfl ?_
    exact kt
  obtain ⟨T10, h10, k10, X10, e10, E10, A10, B10, st10⟩ := newPE (aty := .byte) X0 hx hZ (hw _ tw17) e0 (g := (mkF m 1 #[.val (.ref a0_), .val (.int 0), .val (.int 2), .unset, .unset, .unset] [(.int 2)])) rfl (hb hby d20_1) rfl (by decide) (cap := 2) (by decide) (by decide) (by decide) (by decide) (ad := "[B") (by decide)
  obtain ⟨b10, g10⟩ : ∃ z, z = h0.size := ⟨_, rfl⟩
  rw [← g10] at A10 B10 st10
  have lb11 : h0.size ≤ b10 := Nat.le_of_eq g10.symm
  have sz12 : h0.size ≤ b10 := Nat.le_trans K0.1 lb11
  have g13 : n0 ≤ b10 := Nat.le_trans Z0 sz12
  have K14 := K0.ext E10
  have O15 := O0.ext E10
  have V16 : Arv Z h10 b10 k10 .byte (2 : Int32) [(.int 0), (.int 0)] (.int 0) := (Arv.new A10 (by decide)).pad (pad_rep [] (.int 0) 2)
  refine Go.st st10 ?_
  show Go _ _ _ _ _ _ _ (T10.setTop (mkF m 3 _ [(.ref b10)]))
  refine Go.st (t' := T10.setTop (mkF m 9 #[.val (.ref a0_), .val (.int 0), .val (.int 2), .val (.ref b10), .unset, .unset] [(.int 2), (.int 0), (.ref b10), (.int 0), (.ref a0_)])) (fun target kt => ?_) ?_
  · refine XS.astoreN X10.here hx rfl (hb hby d20_3) rfl rfl (l' := #[.val (.ref a0_), .val (.int 0), .val (.int 2), .val (.ref b10), .unset, .unset]) rfl ?_
    refine XS.aloadN X10.here hx rfl (hb hby d20_4) rfl rfl ?_
    refine XS.iloadN X10.here hx rfl (hb hby d20_5) rfl ?_
    refine XS.aloadN X10.here hx rfl (hb hby d20_6) rfl rfl ?_
    refine XS.iconst X10.here hx rfl (hb hby d20_7) ?_
    refine XS.iloadN X10.here hx rfl (hb hby d20_8) rfl ?_
    exact kt
  have c17 := Vc.ext E10
  have o18 : a0_ < b10 := Nat.lt_of_lt_of_le Vc.lt lb11
  have ne19 : a0_ ≠ b10 := Nat.ne_of_lt o18
  obtain ⟨_, _, ⟨T20, L20, k20, n20⟩, -, X20, ⟨Lc20, hQ20, l20, y20, z20⟩, st20⟩ := Jvm.LawKit.callS X10 hx (y := (⟨"java/lang/StringUTF16", "compress", "([CI[BII)I"⟩ : MethodName)) hown (mvT hZ (hw _ tw133)) (mvT hZ (hw _ tw134)) (mvT hZ (hw _ tw131)) (mvT hZ (hw _ tw135)) (by decide) (backOf (W := 0) (rm21_2 l Z a0 hw [] a0_ b10 kc c0 c1 k10 h10 n0 (Nat.le_trans Z0 K14.1) O15  c17 V16 g13 ne19 hcd0 hcd1) hZ (hw _ tw135) (hw _ tw131) (by decide) (by decide)) (g := (mkF m 9 #[.val (.ref a0_), .val (.int 0), .val (.int 2), .val (.ref b10), .unset, .unset] [(.int 2), (.int 0), (.ref b10), (.int 0), (.ref a0_)])) rfl (by rw [hml]; rfl) (argsL := [(.ref a0_), (.int 0), (.ref b10), (.int 0), (.int 2)]) (rest := []) (lenOf pd3 rfl) rfl (by show 2 * 0 + _ ≤ _; exact Nat.le_of_eq rfl) (hb hby d20_9) (fun _ _ => ⟨rfl, e10, (by decide : 1 + 0 ≤ _), (by decide : 2 + 0 ≤ _)⟩)
  dsimp only [Pt.U, Pt.locs, Pt.cells, Pt.slots] at X20 l20 y20 z20 st20 hQ20
  subst l20 y20 z20
  obtain ⟨i21, i22, rfl, Nq20, Kq20, q23⟩ := hQ20
  have N20 := Fr.app N0 Nq20
  have K24 := K14.trans Kq20 (allS (Or.inr sz12) all0)
  have O25 := O15.keep Kq20 (allS g13 all0)
  refine Go.st st20 ?_
  show Go _ _ _ _ _ _ _ (T20.setTop (mkF m 12 _ [(.int 2)]))
  refine Go.st (t' := T20.setTop (mkF m 58 #[.val (.ref a0_), .val (.int 0), .val (.int 2), .val (.ref b10), .val (.int 2), .unset] [(.ref b10)])) (fun target kt => ?_) ?_
  · refine XS.istore X20.here hx rfl (hb hby d20_12) rfl (l' := #[.val (.ref a0_), .val (.int 0), .val (.int 2), .val (.ref b10), .val (.int 2), .unset]) rfl ?_
    refine XS.iload X20.here hx rfl (hb hby d20_14) rfl ?_
    refine XS.iloadN X20.here hx rfl (hb hby d20_16) rfl ?_
    refine XS.icmpYes X20.here hx rfl (pc0 := 17) (pc' := 57) rfl (hb hby d20_17) rfl (teq (by decide : (2 : Int32) = (2 : Int32))).1 (by decide) (by decide) ?_
    refine XS.aloadN X20.here hx rfl (hb hby d20_57) rfl rfl ?_
    exact kt
  refine Go.ret X20 (v := some (.ref b10)) (fun h => by rw [hret] at h; cases h) hlk (fun fs hr => retR X20 hx hret rfl rfl (hb hby d20_58) hr) ?_ (by decide) (by decide)
  show Q20_2 Z a0_ kc c0 c1 h0 n0 _ T20.heap _
  exact ⟨b10, k10, i21, i22, rfl, N20, K24, sz12, q23⟩
theorem d22_0 : decode jdk_52_method_15_code 0 = .ok (.iload_n 1, 1) := by decide +kernel
theorem d22_1 : decode jdk_52_method_15_code 1 = .ok (.aload_n 0, 1) := by decide +kernel
theorem d22_2 : decode jdk_52_method_15_code 2 = .ok (.arraylength, 1) := by decide +kernel
theorem d22_3 : decode jdk_52_method_15_code 3 = .ok (.isub, 1) := by decide +kernel
theorem d22_4 : decode jdk_52_method_15_code 4 = .ok (.bipush 31, 2) := by decide +kernel
theorem d22_6 : decode jdk_52_method_15_code 6 = .ok (.iushr, 1) := by decide +kernel
theorem d22_7 : decode jdk_52_method_15_code 7 = .ok (.i2b, 1) := by decide +kernel
theorem d22_8 : decode jdk_52_method_15_code 8 = .ok (.ireturn, 1) := by decide +kernel
theorem ef22_2 (m : MethodId) (x0 : Addr) : entryFrame m #[(.ref x0), (.int 2)] 2 = mkF m 0 #[.val (.ref x0), .val (.int 2)] [] := by first | (simp [entryFrame, mkF, argsToLocals, Value.category]; done) | rfl
def Q22_2 (Z : State) (a0_ : Addr) (kb : ClassId) (z0 : Int32) (z1 : Int32) (h0 : Heap) (n0 : Nat) (v : Option Value) (h : Heap) (L : List Loc) : Prop := v = some (.int 0) ∧ Fr n0 L ∧ h = h0
theorem rm22_2 (l : Launch) (Z : State) (a0 : Array Value) (hw : ∀ d ∈ tables_1, d.before a0 Z = true) (ws : List Jvm.Cond) (a0_ : Addr) (kb : ClassId) (z0 : Int32) (z1 : Int32) (h0 : Heap) (n0 : Nat) (Z0 : n0 ≤ h0.size) (O0 : Old Z n0 h0) (V : Arv Z h0 a0_ kb .byte (2 : Int32) [(.int z0), (.int z1)] (.int 0)) :
    Met l Z ws (⟨"java/lang/StringUTF16", "coderFromArrayLen", "([BI)B"⟩ : MethodName) jdk_52_method_15_code 2 (some .byte) (Rm 0 0 0 0) #[(.ref a0_), (.int 2)] h0 (Q22_2 Z a0_ kb z0 z1 h0 n0) := by
  refine Met.enter (L0 := #[.val (.ref a0_), .val (.int 2)]) (plainFor_of_name pn60) (fun m => ef22_2 m a0_) ?_
  intro p e s m below meth c s₁ hx hby hml hown hnm hret hlk hZ X0 e0
  have N0 := Fr.nil n0
  have K0 : Keep h0 h0 [] := Keep.refl h0 _
  obtain ⟨cl10, Ar10, -, S10, M10, -, -⟩ := id V
  refine Go.st (t' := s₁.setTop (mkF m 8 #[.val (.ref a0_), .val (.int 2)] [(.int 0)])) (fun target kt => ?_) ?_
  · refine XS.iloadN X0.here hx rfl (hb hby d22_0) rfl ?_
    refine XS.aloadN X0.here hx rfl (hb hby d22_1) rfl rfl ?_
    refine X0.arraylength hx (by rw [e0]; exact Ar10.1) (State.isArrayOf_alike hZ.alike Ar10.2.1) (g := (mkF m 2 #[.val (.ref a0_), .val (.int 2)] [(.ref a0_), (.int 2)])) rfl rfl (hb hby d22_2) _ ?_
    rw [len_of S10 M10]
    refine XS.isub X0.here hx rfl (hb hby d22_3) rfl ?_
    refine XS.bipush X0.here hx rfl (hb hby d22_4) ?_
    refine XS.iushr X0.here hx rfl (hb hby d22_6) rfl ?_
    refine XS.i2b X0.here hx rfl (hb hby d22_7) rfl ?_
    exact kt
  refine Go.ret X0 (v := some (.int 0)) (fun h => by rw [hret] at h; cases h) hlk (fun fs hr => retN X0 hx (t := .byte) hret (by simp) (hb hby d22_8) hr) ?_ (by decide) (by decide)
  show Q22_2 Z a0_ kb z0 z1 h0 n0 _ s₁.heap _
  rw [e0]
  exact ⟨rfl, N0, rfl⟩
theorem d19_0 : decode jdk_42_method_149_code 0 = .ok (.aload_n 0, 1) := by decide +kernel
theorem d19_1 : decode jdk_42_method_149_code 1 = .ok (.invokespecial 1, 3) := by decide +kernel
theorem d19_4 : decode jdk_42_method_149_code 4 = .ok (.iload_n 3, 1) := by decide +kernel
theorem d19_5 : decode jdk_42_method_149_code 5 = .ok (.ifCond .ne 22, 3) := by decide +kernel
theorem d19_27 : decode jdk_42_method_149_code 27 = .ok (.getstatic 38, 3) := by decide +kernel
theorem d19_30 : decode jdk_42_method_149_code 30 = .ok (.ifCond .eq 28, 3) := by decide +kernel
theorem d19_33 : decode jdk_42_method_149_code 33 = .ok (.aload_n 1, 1) := by decide +kernel
theorem d19_34 : decode jdk_42_method_149_code 34 = .ok (.iload_n 2, 1) := by decide +kernel
theorem d19_35 : decode jdk_42_method_149_code 35 = .ok (.iload_n 3, 1) := by decide +kernel
theorem d19_36 : decode jdk_42_method_149_code 36 = .ok (.invokestatic 177, 3) := by decide +kernel
theorem tw129 : (Jvm.Cond.methodLink "java/lang/String" (177 : Nat) ({ cls := "java/lang/StringUTF16", name := "compress", desc := "([CII)[B" } : Jvm.MethodName)) ∈ tables_1 := List.mem_of_getElem? (i := 129) rfl
theorem tw132 : (Jvm.Cond.code ({ cls := "java/lang/StringUTF16", name := "compress", desc := "([CII)[B" } : Jvm.MethodName) jdk_52_method_16_code (6 : Nat) (Option.some (Jvm.ClassFile.FieldType.array Jvm.ClassFile.FieldType.byte))) ∈ tables_1 := List.mem_of_getElem? (i := 132) rfl
theorem pd4 : parseMethodDescriptor "([CII)[B" = some ⟨[(.array .char), .int, .int], some (.array .byte)⟩ := by decide +kernel
theorem tw130 : (Jvm.Cond.static ({ cls := "java/lang/StringUTF16", name := "compress", desc := "([CII)[B" } : Jvm.MethodName)) ∈ tables_1 := List.mem_of_getElem? (i := 130) rfl
theorem d19_39 : decode jdk_42_method_149_code 39 = .ok (.astore 5, 2) := by decide +kernel
theorem d19_41 : decode jdk_42_method_149_code 41 = .ok (.aload_n 0, 1) := by decide +kernel
theorem d19_42 : decode jdk_42_method_149_code 42 = .ok (.aload 5, 2) := by decide +kernel
theorem d19_44 : decode jdk_42_method_149_code 44 = .ok (.iload_n 3, 1) := by decide +kernel
theorem d19_45 : decode jdk_42_method_149_code 45 = .ok (.invokestatic 47, 3) := by decide +kernel
theorem tw136 : (Jvm.Cond.methodLink "java/lang/String" (47 : Nat) ({ cls := "java/lang/StringUTF16", name := "coderFromArrayLen", desc := "([BI)B" } : Jvm.MethodName)) ∈ tables_1 := List.mem_of_getElem? (i := 136) rfl
theorem tw138 : (Jvm.Cond.code ({ cls := "java/lang/StringUTF16", name := "coderFromArrayLen", desc := "([BI)B" } : Jvm.MethodName) jdk_52_method_15_code (2 : Nat) (Option.some Jvm.ClassFile.FieldType.byte)) ∈ tables_1 := List.mem_of_getElem? (i := 138) rfl
theorem pd5 : parseMethodDescriptor "([BI)B" = some ⟨[(.array .byte), .int], some .byte⟩ := by decide +kernel
theorem tw137 : (Jvm.Cond.static ({ cls := "java/lang/StringUTF16", name := "coderFromArrayLen", desc := "([BI)B" } : Jvm.MethodName)) ∈ tables_1 := List.mem_of_getElem? (i := 137) rfl
theorem d19_48 : decode jdk_42_method_149_code 48 = .ok (.putfield 15, 3) := by decide +kernel
theorem d19_51 : decode jdk_42_method_149_code 51 = .ok (.aload_n 0, 1) := by decide +kernel
theorem d19_52 : decode jdk_42_method_149_code 52 = .ok (.aload 5, 2) := by decide +kernel
theorem d19_54 : decode jdk_42_method_149_code 54 = .ok (.putfield 9, 3) := by decide +kernel
theorem d19_57 : decode jdk_42_method_149_code 57 = .ok (.return_, 1) := by decide +kernel
theorem ef19_2 (m : MethodId) (x0 : Addr) (x1 : Addr) : entryFrame m #[(.ref x0), (.ref x1), (.int 0), (.int 2), .null] 6 = mkF m 0 #[.val (.ref x0), .val (.ref x1), .val (.int 0), .val (.int 2), .val .null, .unset] [] := by first | (simp [entryFrame, mkF, argsToLocals, Value.category]; done) | rfl
def Q19_2 (Z : State) (a0_ : Addr) (a1_ : Addr) (kc : ClassId) (c0 : Int32) (c1 : Int32) (wcs : Int32) (h0 : Heap) (n0 : Nat) (v : Option Value) (h : Heap) (L : List Loc) : Prop := v = none ∧ Fr n0 L ∧ Keep h0 h [a0_] ∧ Exa Z h a0_ "java/lang/String"
theorem rm19_2 (l : Launch) (Z : State) (a0 : Array Value) (hw : ∀ d ∈ tables_1, d.before a0 Z = true) (ws : List Jvm.Cond) (a0_ : Addr) (a1_ : Addr) (kc : ClassId) (c0 : Int32) (c1 : Int32) (wcs : Int32) (h0 : Heap) (n0 : Nat) (Z0 : n0 ≤ h0.size) (O0 : Old Z n0 h0) (S_CS : Sta Z Z.heap "java/lang/String" "COMPACT_STRINGS" "Z" (.int wcs)) (hcs : ¬ (wcs = (0 : Int32))) (g0 : n0 ≤ a0_) (E0 : Exa Z h0 a0_ "java/lang/String") (Fv : Fld Z h0 a0_ "java/lang/String" "value" "[B" .null) (Fc : Fld Z h0 a0_ "java/lang/String" "coder" "B" (.int 0)) (Vc : Arv Z h0 a1_ kc .char (2 : Int32) [(.int c0), (.int c1)] (.int 0)) (hne : a1_ ≠ a0_) (hcd0 : ¬ ((255 : Int32) < c0)) (hcd1 : ¬ ((255 : Int32) < c1)) :
    Met l Z ws (⟨"java/lang/String", "<init>", "([CIILjava/lang/Void;)V"⟩ : MethodName) jdk_42_method_149_code 6 none (Rm 2 1 2 35) #[(.ref a0_), (.ref a1_), (.int 0), (.int 2), .null] h0 (Q19_2 Z a0_ a1_ kc c0 c1 wcs h0 n0) := by
  refine Met.enter (L0 := #[.val (.ref a0_), .val (.ref a1_), .val (.int 0), .val (.int 2), .val .null, .unset]) (plainFor_of_name pn24) (fun m => ef19_2 m a0_ a1_) ?_
  intro p e s m below meth c s₁ hx hby hml hown hnm hret hlk hZ X0 e0
  have N0 := Fr.nil n0
  have K0 : Keep h0 h0 [a0_] := Keep.refl h0 _
  refine Go.st (t' := s₁.setTop (mkF m 1 #[.val (.ref a0_), .val (.ref a1_), .val (.int 0), .val (.int 2), .val .null, .unset] [(.ref a0_)])) (fun target kt => ?_) ?_
  · refine XS.aloadN X0.here hx rfl (hb hby d19_0) rfl rfl ?_
    exact kt
  obtain ⟨T10, X10, e10, st10⟩ := initO X0 hx hZ hown (hw _ tw22) (hw _ tw23) (hw _ tw24) e0 (g := (mkF m 1 #[.val (.ref a0_), .val (.ref a1_), .val (.int 0), .val (.int 2), .val .null, .unset] [(.ref a0_)])) rfl (by rw [hml]; rfl) rfl (hb hby d19_1) (by decide) (W := 0) (by show 2 * 0 + _ ≤ _; exact Nat.le_of_eq rfl) (by decide)
  refine Go.st st10 ?_
  show Go _ _ _ _ _ _ _ (T10.setTop (mkF m 4 _ []))
  refine Go.st (t' := T10.setTop (mkF m 27 #[.val (.ref a0_), .val (.ref a1_), .val (.int 0), .val (.int 2), .val .null, .unset] [])) (fun target kt => ?_) ?_
  · refine XS.iloadN X10.here hx rfl (hb hby d19_4) rfl ?_
    refine XS.ifYes X10.here hx rfl (pc0 := 5) (pc' := 27) rfl (hb hby d19_5) rfl ((if0 _ _).trans (feq (by decide : ¬ ((2 : Int32) = (0 : Int32)))).2) (by decide) (by decide) ?_
    exact kt
  obtain ⟨T11, X11, e11, st11⟩ := getS2 X10 hx hZ hown (host := "") (Or.inl (hw _ tw7)) Via.refl e10 (S_CS.ext O0.2) (g := (mkF m 27 #[.val (.ref a0_), .val (.ref a1_), .val (.int 0), .val (.int 2), .val .null, .unset] [])) rfl (hb hby d19_27)
  refine Go.st st11 ?_
  show Go _ _ _ _ _ _ _ (T11.setTop (mkF m 30 _ [(.int wcs)]))
  refine Go.st (t' := T11.setTop (mkF m 36 #[.val (.ref a0_), .val (.ref a1_), .val (.int 0), .val (.int 2), .val .null, .unset] [(.int 2), (.int 0), (.ref a1_)])) (fun target kt => ?_) ?_
  · refine XS.ifNo X11.here hx rfl (hb hby d19_30) rfl ((if0 _ _).trans (feq hcs).1) ?_
    refine XS.aloadN X11.here hx rfl (hb hby d19_33) rfl rfl ?_
    refine XS.iloadN X11.here hx rfl (hb hby d19_34) rfl ?_
    refine XS.iloadN X11.here hx rfl (hb hby d19_35) rfl ?_
    exact kt
  obtain ⟨_, _, ⟨T12, L12, k12, n12⟩, -, X12, ⟨Lc12, hQ12, l12, y12, z12⟩, st12⟩ := Jvm.LawKit.callS X11 hx (y := (⟨"java/lang/StringUTF16", "compress", "([CII)[B"⟩ : MethodName)) hown (mvT hZ (hw _ tw129)) (mvT hZ (hw _ tw130)) (mvT hZ (hw _ tw131)) (mvT hZ (hw _ tw132)) (by decide) (backOf (W := 0) (rm20_2 l Z a0 hw [] a1_ kc c0 c1 h0 n0 (Nat.le_trans Z0 K0.1) O0  Vc hcd0 hcd1) hZ (hw _ tw132) (hw _ tw131) (by decide) (by decide)) (g := (mkF m 36 #[.val (.ref a0_), .val (.ref a1_), .val (.int 0), .val (.int 2), .val .null, .unset] [(.int 2), (.int 0), (.ref a1_)])) rfl (by rw [hml]; rfl) (argsL := [(.ref a1_), (.int 0), (.int 2)]) (rest := []) (lenOf pd4 rfl) rfl (by show 2 * 0 + _ ≤ _; exact Nat.le_of_eq rfl) (hb hby d19_36) (fun _ _ => ⟨rfl, e11, (by decide : 0 + 1 ≤ _), (by decide : 0 + 2 ≤ _)⟩)
  dsimp only [Pt.U, Pt.locs, Pt.cells, Pt.slots] at X12 l12 y12 z12 st12 hQ12
  subst l12 y12 z12
  obtain ⟨b13, k14, i15, i16, rfl, Nq12, Kq12, q17, q18⟩ := hQ12
  have N12 := Fr.app N0 Nq12
  have sz19 : h0.size ≤ b13 := Nat.le_trans K0.1 q17
  have g20 : n0 ≤ b13 := Nat.le_trans Z0 sz19
  have K21 := K0.trans Kq12 all0
  have O22 := O0.keep Kq12 all0
  refine Go.st st12 ?_
  show Go _ _ _ _ _ _ _ (T12.setTop (mkF m 39 _ [(.ref b13)]))
  refine Go.st (t' := T12.setTop (mkF m 45 #[.val (.ref a0_), .val (.ref a1_), .val (.int 0), .val (.int 2), .val .null, .val (.ref b13)] [(.int 2), (.ref b13), (.ref a0_)])) (fun target kt => ?_) ?_
  · refine XS.astore X12.here hx rfl (hb hby d19_39) rfl rfl (l' := #[.val (.ref a0_), .val (.ref a1_), .val (.int 0), .val (.int 2), .val .null, .val (.ref b13)]) rfl ?_
    refine XS.aloadN X12.here hx rfl (hb hby d19_41) rfl rfl ?_
    refine XS.aload X12.here hx rfl (hb hby d19_42) rfl rfl ?_
    refine XS.iloadN X12.here hx rfl (hb hby d19_44) rfl ?_
    exact kt
  obtain ⟨_, _, ⟨T23, L23, k23, n23⟩, -, X23, ⟨Lc23, hQ23, l23, y23, z23⟩, st23⟩ := Jvm.LawKit.callS X12 hx (y := (⟨"java/lang/StringUTF16", "coderFromArrayLen", "([BI)B"⟩ : MethodName)) hown (mvT hZ (hw _ tw136)) (mvT hZ (hw _ tw137)) (mvT hZ (hw _ tw131)) (mvT hZ (hw _ tw138)) (by decide) (backOf (W := 1) (rm22_2 l Z a0 hw [] b13 k14 i15 i16 T12.heap n0 (Nat.le_trans Z0 K21.1) O22  q18) hZ (hw _ tw138) (hw _ tw131) (by decide) (by decide)) (g := (mkF m 45 #[.val (.ref a0_), .val (.ref a1_), .val (.int 0), .val (.int 2), .val .null, .val (.ref b13)] [(.int 2), (.ref b13), (.ref a0_)])) rfl (by rw [hml]; rfl) (argsL := [(.ref b13), (.int 2)]) (rest := [(.ref a0_)]) (lenOf pd5 rfl) rfl (by show 2 * 0 + _ ≤ _; exact Nat.le_of_eq rfl) (hb hby d19_45) (fun _ _ => ⟨rfl, rfl, (by decide : 1 + 0 ≤ _), (by decide : 2 + 0 ≤ _)⟩)
  dsimp only [Pt.U, Pt.locs, Pt.cells, Pt.slots] at X23 l23 y23 z23 st23 hQ23
  subst l23 y23 z23
  obtain ⟨rfl, Nq23, eq23⟩ := hQ23
  have N23 := Fr.app N12 Nq23
  refine Go.st st23 ?_
  show Go _ _ _ _ _ _ _ (T23.setTop (mkF m 48 _ [(.int 0), (.ref a0_)]))
  have c24 := Fc.keep Kq12 nin0
  have c25 := E0.keep Kq12
  obtain ⟨T26, h26, X26, e26, W26, st26⟩ := putFN X23 hx hZ hown (hw _ tw27) Via.refl eq23 c24 c25 (Or.inr ⟨(hw _ tw28), rfl, hnm⟩) (hw _ tw13) (ty := .byte) (v' := (.int 0)) (by decide) rfl (by decide) (g := (mkF m 48 #[.val (.ref a0_), .val (.ref a1_), .val (.int 0), .val (.int 2), .val .null, .val (.ref b13)] [(.int 0), (.ref a0_)])) rfl rfl (hb hby d19_48)
  have F27 : Fld Z h26 a0_ "java/lang/String" "coder" "B" (.int 0) := c24.same W26
  have K28 := K21.wr W26 (Or.inl (List.mem_of_getElem? (i := 0) rfl))
  have O29 := O22.wr W26 g0
  have N26 := Fr.snoc X26 N23 g0
  refine Go.st st26 ?_
  show Go _ _ _ _ _ _ _ (T26.setTop (mkF m 51 _ []))
  refine Go.st (t' := T26.setTop (mkF m 54 #[.val (.ref a0_), .val (.ref a1_), .val (.int 0), .val (.int 2), .val .null, .val (.ref b13)] [(.ref b13), (.ref a0_)])) (fun target kt => ?_) ?_
  · refine XS.aloadN X26.here hx rfl (hb hby d19_51) rfl rfl ?_
    refine XS.aload X26.here hx rfl (hb hby d19_52) rfl rfl ?_
    exact kt
  have c30 := (Fv.keep Kq12 nin0).other W26 (Or.inr (slot_ne (Or.inr (hw _ tw26)) (Or.inr (hw _ tw28)) (by decide) (t := (.array .byte)) (t' := .byte) (by decide) (by decide)))
  have c31 := c25.wr W26
  obtain ⟨T32, h32, X32, e32, W32, st32⟩ := putF X26 hx hZ hown (host := "") (Or.inl (hw _ tw25)) Via.refl e26 c30 c31 (Or.inr ⟨(hw _ tw26), rfl, hnm⟩) (hw _ tw13) (ty := (.array .byte)) (by decide) rfl rfl (g := (mkF m 54 #[.val (.ref a0_), .val (.ref a1_), .val (.int 0), .val (.int 2), .val .null, .val (.ref b13)] [(.ref b13), (.ref a0_)])) rfl rfl (hb hby d19_54)
  have F33 : Fld Z h32 a0_ "java/lang/String" "value" "[B" (.ref b13) := c30.same W32
  have K34 := K28.wr W32 (Or.inl (List.mem_of_getElem? (i := 0) rfl))
  have O35 := O29.wr W32 g0
  have N32 := Fr.snoc X32 N26 g0
  refine Go.st st32 ?_
  show Go _ _ _ _ _ _ _ (T32.setTop (mkF m 57 _ []))
  have c36 := c31.wr W32
  refine Go.ret X32 (v := none) (fun _ => rfl) hlk (fun fs hr => X32.returnOut hx hret (hb hby d19_57) hr) ?_ (by decide) (by decide)
  show Q19_2 Z a0_ a1_ kc c0 c1 wcs h0 n0 _ T32.heap _
  rw [e32]
  exact ⟨rfl, N32, K34, c36⟩
theorem d18_0 : decode jdk_42_method_3_code 0 = .ok (.aload_n 0, 1) := by decide +kernel
theorem d18_1 : decode jdk_42_method_3_code 1 = .ok (.aload_n 1, 1) := by decide +kernel
theorem d18_2 : decode jdk_42_method_3_code 2 = .ok (.iconst 0, 1) := by decide +kernel
theorem d18_3 : decode jdk_42_method_3_code 3 = .ok (.aload_n 1, 1) := by decide +kernel
theorem d18_4 : decode jdk_42_method_3_code 4 = .ok (.arraylength, 1) := by decide +kernel
theorem d18_5 : decode jdk_42_method_3_code 5 = .ok (.aconst_null, 1) := by decide +kernel
theorem d18_6 : decode jdk_42_method_3_code 6 = .ok (.invokespecial 27, 3) := by decide +kernel
theorem tw126 : (Jvm.Cond.methodLink "java/lang/String" (27 : Nat) ({ cls := "java/lang/String", name := "<init>", desc := "([CIILjava/lang/Void;)V" } : Jvm.MethodName)) ∈ tables_1 := List.mem_of_getElem? (i := 126) rfl
theorem tw128 : (Jvm.Cond.code ({ cls := "java/lang/String", name := "<init>", desc := "([CIILjava/lang/Void;)V" } : Jvm.MethodName) jdk_42_method_149_code (6 : Nat) (Option.none : Option Jvm.ClassFile.FieldType)) ∈ tables_1 := List.mem_of_getElem? (i := 128) rfl
theorem pd6 : parseMethodDescriptor "([CIILjava/lang/Void;)V" = some ⟨[(.array .char), .int, .int, (.object "java/lang/Void")], none⟩ := by decide +kernel
theorem tw127 : (Jvm.Cond.instanceMethod ({ cls := "java/lang/String", name := "<init>", desc := "([CIILjava/lang/Void;)V" } : Jvm.MethodName)) ∈ tables_1 := List.mem_of_getElem? (i := 127) rfl
theorem d18_9 : decode jdk_42_method_3_code 9 = .ok (.return_, 1) := by decide +kernel
theorem ef18_2 (m : MethodId) (x0 : Addr) (x1 : Addr) : entryFrame m #[(.ref x0), (.ref x1)] 2 = mkF m 0 #[.val (.ref x0), .val (.ref x1)] [] := by first | (simp [entryFrame, mkF, argsToLocals, Value.category]; done) | rfl
def Q18_2 (Z : State) (a0_ : Addr) (a1_ : Addr) (kc : ClassId) (c0 : Int32) (c1 : Int32) (wcs : Int32) (h0 : Heap) (n0 : Nat) (v : Option Value) (h : Heap) (L : List Loc) : Prop := v = none ∧ Fr n0 L ∧ Keep h0 h [a0_] ∧ Exa Z h a0_ "java/lang/String"
theorem rm18_2 (l : Launch) (Z : State) (a0 : Array Value) (hw : ∀ d ∈ tables_1, d.before a0 Z = true) (ws : List Jvm.Cond) (a0_ : Addr) (a1_ : Addr) (kc : ClassId) (c0 : Int32) (c1 : Int32) (wcs : Int32) (h0 : Heap) (n0 : Nat) (Z0 : n0 ≤ h0.size) (O0 : Old Z n0 h0) (S_CS : Sta Z Z.heap "java/lang/String" "COMPACT_STRINGS" "Z" (.int wcs)) (hcs : ¬ (wcs = (0 : Int32))) (g0 : n0 ≤ a0_) (E0 : Exa Z h0 a0_ "java/lang/String") (Fv : Fld Z h0 a0_ "java/lang/String" "value" "[B" .null) (Fc : Fld Z h0 a0_ "java/lang/String" "coder" "B" (.int 0)) (Vc : Arv Z h0 a1_ kc .char (2 : Int32) [(.int c0), (.int c1)] (.int 0)) (hne : a1_ ≠ a0_) (hcd0 : ¬ ((255 : Int32) < c0)) (hcd1 : ¬ ((255 : Int32) < c1)) :
    Met l Z ws (⟨"java/lang/String", "<init>", "([C)V"⟩ : MethodName) jdk_42_method_3_code 2 none (Rm 3 1 2 52) #[(.ref a0_), (.ref a1_)] h0 (Q18_2 Z a0_ a1_ kc c0 c1 wcs h0 n0) := by
  refine Met.enter (L0 := #[.val (.ref a0_), .val (.ref a1_)]) (plainFor_of_name pn24) (fun m => ef18_2 m a0_ a1_) ?_
  intro p e s m below meth c s₁ hx hby hml hown hnm hret hlk hZ X0 e0
  have N0 := Fr.nil n0
  have K0 : Keep h0 h0 [a0_] := Keep.refl h0 _
  obtain ⟨cl10, Ar10, -, S10, M10, -, -⟩ := id Vc
  refine Go.st (t' := s₁.setTop (mkF m 6 #[.val (.ref a0_), .val (.ref a1_)] [.null, (.int 2), (.int 0), (.ref a1_), (.ref a0_)])) (fun target kt => ?_) ?_
  · refine XS.aloadN X0.here hx rfl (hb hby d18_0) rfl rfl ?_
    refine XS.aloadN X0.here hx rfl (hb hby d18_1) rfl rfl ?_
    refine XS.iconst X0.here hx rfl (hb hby d18_2) ?_
    refine XS.aloadN X0.here hx rfl (hb hby d18_3) rfl rfl ?_
    refine X0.arraylength hx (by rw [e0]; exact Ar10.1) (State.isArrayOf_alike hZ.alike Ar10.2.1) (g := (mkF m 4 #[.val (.ref a0_), .val (.ref a1_)] [(.ref a1_), (.int 0), (.ref a1_), (.ref a0_)])) rfl rfl (hb hby d18_4) _ ?_
    rw [len_of S10 M10]
    refine XS.aconstNull X0.here hx rfl (hb hby d18_5) ?_
    exact kt
  obtain ⟨_, _, ⟨T11, L11, k11, n11⟩, -, X11, ⟨Lc11, hQ11, l11, y11, z11⟩, st11⟩ := X0.specialBack hx (y := (⟨"java/lang/String", "<init>", "([CIILjava/lang/Void;)V"⟩ : MethodName)) rfl hown (mvT hZ (hw _ tw126)) (mvT hZ (hw _ tw127)) (mvT hZ (hw _ tw128)) (by decide) (backOf (W := 0) (rm19_2 l Z a0 hw [] a0_ a1_ kc c0 c1 wcs h0 n0 (Nat.le_trans Z0 K0.1) O0 S_CS hcs g0 E0 Fv Fc Vc hne hcd0 hcd1) hZ (hw _ tw128) (hw _ tw5) (by decide) (by decide)) (g := (mkF m 6 #[.val (.ref a0_), .val (.ref a1_)] [.null, (.int 2), (.int 0), (.ref a1_), (.ref a0_)])) rfl (by rw [hml]; rfl) (Steps.refl _) (a := a0_) (argsL := [(.ref a1_), (.int 0), (.int 2), .null]) (rest := []) (lenOf pd6 rfl) rfl (by show 2 * 0 + _ ≤ _; exact Nat.le_of_eq rfl) (hb hby d18_6) (fun _ _ => ⟨rfl, e0, (by decide : 0 + 1 ≤ _), (by decide : 0 + 2 ≤ _)⟩)
  dsimp only [Pt.U, Pt.locs, Pt.cells, Pt.slots] at X11 l11 y11 z11 st11 hQ11
  subst l11 y11 z11
  obtain ⟨rfl, Nq11, Kq11, q12⟩ := hQ11
  have N11 := Fr.app N0 Nq11
  have K13 := K0.trans Kq11 (allS (Or.inl (List.mem_of_getElem? (i := 0) rfl)) all0)
  have O14 := O0.keep Kq11 (allS g0 all0)
  refine Go.by st11 ?_
  show Go _ _ _ _ _ _ _ (T11.setTop (mkF m 9 _ []))
  refine Go.ret X11 (v := none) (fun _ => rfl) hlk (fun fs hr => X11.returnOut hx hret (hb hby d18_9) hr) ?_ (by decide) (by decide)
  show Q18_2 Z a0_ a1_ kc c0 c1 wcs h0 n0 _ T11.heap _
  exact ⟨rfl, N11, K13, q12⟩
theorem ef21_3 (m : MethodId) (x0 : Addr) (x2 : Addr) : entryFrame m #[(.ref x0), (.int 0), (.ref x2), (.int 0), (.int 3)] 7 = mkF m 0 #[.val (.ref x0), .val (.int 0), .val (.ref x2), .val (.int 0), .val (.int 3), .unset, .unset] [] := by first | (simp [entryFrame, mkF, argsToLocals, Value.category]; done) | rfl
def Q21_3 (Z : State) (a0_ : Addr) (a2_ : Addr) (kc : ClassId) (c0 : Int32) (c1 : Int32) (c2 : Int32) (kb : ClassId) (h0 : Heap) (n0 : Nat) (v : Option Value) (h : Heap) (L : List Loc) : Prop := ∃ (z0 : Int32) (z1 : Int32) (z2 : Int32), v = some (.int 3) ∧ Fr n0 L ∧ Keep h0 h [a2_] ∧ Arv Z h a2_ kb .byte (3 : Int32) [(.int z0), (.int z1), (.int z2)] (.int 0)
theorem rm21_3 (l : Launch) (Z : State) (a0 : Array Value) (hw : ∀ d ∈ tables_1, d.before a0 Z = true) (ws : List Jvm.Cond) (a0_ : Addr) (a2_ : Addr) (kc : ClassId) (c0 : Int32) (c1 : Int32) (c2 : Int32) (kb : ClassId) (h0 : Heap) (n0 : Nat) (Z0 : n0 ≤ h0.size) (O0 : Old Z n0 h0) (Vc : Arv Z h0 a0_ kc .char (3 : Int32) [(.int c0), (.int c1), (.int c2)] (.int 0)) (Vb : Arv Z h0 a2_ kb .byte (3 : Int32) [(.int 0), (.int 0), (.int 0)] (.int 0)) (g2 : n0 ≤ a2_) (hne : a0_ ≠ a2_) (hcd0 : ¬ ((255 : Int32) < c0)) (hcd1 : ¬ ((255 : Int32) < c1)) (hcd2 : ¬ ((255 : Int32) < c2)) :
    Met l Z ws (⟨"java/lang/StringUTF16", "compress", "([CI[BII)I"⟩ : MethodName) jdk_52_method_21_code 7 (some .int) (Rm 0 0 0 0) #[(.ref a0_), (.int 0), (.ref a2_), (.int 0), (.int 3)] h0 (Q21_3 Z a0_ a2_ kc c0 c1 c2 kb h0 n0) := by
  refine Met.enter (L0 := #[.val (.ref a0_), .val (.int 0), .val (.ref a2_), .val (.int 0), .val (.int 3), .unset, .unset]) (plainFor_of_name pn60) (fun m => ef21_3 m a0_ a2_) ?_
  intro p e s m below meth c s₁ hx hby hml hown hnm hret hlk hZ X0 e0
  have N0 := Fr.nil n0
  have K0 : Keep h0 h0 [a2_] := Keep.refl h0 _
  obtain ⟨cl10, Ar10, -, S10, M10, H10, -⟩ := id Vc
  have hin10 : ¬ ((0 : Int32) < 0 ∨ cl10.slots.size ≤ ((0 : Int32)).toNatClampNeg) := inb_of S10 ⟨by decide, by decide⟩
  have hat10 : cl10.slots[((0 : Int32)).toNatClampNeg]? = some (.int c0) := H10.at hin10 rfl
  refine Go.st (t' := s₁.setTop (mkF m 31 #[.val (.ref a0_), .val (.int 0), .val (.ref a2_), .val (.int 0), .val (.int 3), .val (.int 0), .val (.int c0)] [(.int (c0.toInt8.toInt32)), (.int 0), (.ref a2_)])) (fun target kt => ?_) ?_
  · refine XS.iconst X0.here hx rfl (hb hby d21_0) ?_
    refine XS.istore X0.here hx rfl (hb hby d21_1) rfl (l' := #[.val (.ref a0_), .val (.int 0), .val (.ref a2_), .val (.int 0), .val (.int 3), .val (.int 0), .unset]) rfl ?_
    refine XS.iload X0.here hx rfl (hb hby d21_3) rfl ?_
    refine XS.iload X0.here hx rfl (hb hby d21_5) rfl ?_
    refine XS.icmpNo X0.here hx rfl (hb hby d21_7) rfl (tlt (by decide : (0 : Int32) < (3 : Int32))).2.1 ?_
    refine XS.aloadN X0.here hx rfl (hb hby d21_10) rfl rfl ?_
    refine XS.iloadN X0.here hx rfl (hb hby d21_11) rfl ?_
    refine X0.caload hx (j := (0 : Int32)) (v := (.int c0)) (by rw [e0]; exact Ar10.1) (State.isArrayOf_alike hZ.alike Ar10.2.1) Ar10.2.2 hin10 hat10 (g := (mkF m 12 #[.val (.ref a0_), .val (.int 0), .val (.ref a2_), .val (.int 0), .val (.int 3), .val (.int 0), .unset] [(.int 0), (.ref a0_)])) rfl rfl (hb hby d21_12) _ ?_
    refine XS.istore X0.here hx rfl (hb hby d21_13) rfl (l' := #[.val (.ref a0_), .val (.int 0), .val (.ref a2_), .val (.int 0), .val (.int 3), .val (.int 0), .val (.int c0)]) rfl ?_
    refine XS.iload X0.here hx rfl (hb hby d21_15) rfl ?_
    refine XS.sipush X0.here hx rfl (hb hby d21_17) ?_
    refine XS.icmpYes X0.here hx rfl (pc0 := 20) (pc' := 26) rfl (hb hby d21_20) rfl (flt hcd0).2.2.2 (by decide) (by decide) ?_
    refine XS.aloadN X0.here hx rfl (hb hby d21_26) rfl rfl ?_
    refine XS.iloadN X0.here hx rfl (hb hby d21_27) rfl ?_
    refine XS.iload X0.here hx rfl (hb hby d21_28) rfl ?_
    refine XS.i2b X0.here hx rfl (hb hby d21_30) rfl ?_
    exact kt
  obtain ⟨cl11, Ar11, q11, S11, M11, H11, G11⟩ := id Vb
  have hin11 : ¬ ((0 : Int32) < 0 ∨ cl11.slots.size ≤ ((0 : Int32)).toNatClampNeg) := inb_of S11 ⟨by decide, by decide⟩
  obtain ⟨T11, h11, X11, e11, W11, st11⟩ := stB X0 hx hZ e0 Ar11 (j := (0 : Int32)) hin11 (g := (mkF m 31 #[.val (.ref a0_), .val (.int 0), .val (.ref a2_), .val (.int 0), .val (.int 3), .val (.int 0), .val (.int c0)] [(.int (c0.toInt8.toInt32)), (.int 0), (.ref a2_)])) rfl rfl (hb hby d21_31)
  have V12 : Arv Z h11 a2_ kb .byte (3 : Int32) [(.int (nar .byte (c0.toInt8.toInt32))), (.int 0), (.int 0)] (.int 0) := Arv.set Ar11 q11 S11 M11 H11 G11 (fits_nar_byte _) W11 0 rfl (Nat.le_of_ble_eq_true rfl)
  have K13 := K0.wr W11 (Or.inl (List.mem_of_getElem? (i := 0) rfl))
  have O14 := O0.wr W11 g2
  have N11 := Fr.snoc X11 N0 g2
  refine Go.st st11 ?_
  show Go _ _ _ _ _ _ _ (T11.setTop (mkF m 32 _ []))
  have c15 := Vc.other W11 hne
  obtain ⟨cl16, Ar16, -, S16, M16, H16, -⟩ := id c15
  have hin16 : ¬ ((1 : Int32) < 0 ∨ cl16.slots.size ≤ ((1 : Int32)).toNatClampNeg) := inb_of S16 ⟨by decide, by decide⟩
  have hat16 : cl16.slots[((1 : Int32)).toNatClampNeg]? = some (.int c1) := H16.at hin16 rfl
  refine Go.st (t' := T11.setTop (mkF m 31 #[.val (.ref a0_), .val (.int 1), .val (.ref a2_), .val (.int 1), .val (.int 3), .val (.int 1), .val (.int c1)] [(.int (c1.toInt8.toInt32)), (.int 1), (.ref a2_)])) (fun target kt => ?_) ?_
  · refine XS.iinc X11.here hx rfl (hb hby d21_32) rfl (l' := #[.val (.ref a0_), .val (.int 1), .val (.ref a2_), .val (.int 0), .val (.int 3), .val (.int 0), .val (.int c0)]) rfl ?_
    refine XS.iinc X11.here hx rfl (hb hby d21_35) rfl (l' := #[.val (.ref a0_), .val (.int 1), .val (.ref a2_), .val (.int 1), .val (.int 3), .val (.int 0), .val (.int c0)]) rfl ?_
    refine XS.iinc X11.here hx rfl (hb hby d21_38) rfl (l' := #[.val (.ref a0_), .val (.int 1), .val (.ref a2_), .val (.int 1), .val (.int 3), .val (.int 1), .val (.int c0)]) rfl ?_
    refine XS.goto X11.here hx rfl (pc0 := 41) (pc' := 3) rfl (hb hby d21_41) (by decide) (by decide) ?_
    refine XS.iload X11.here hx rfl (hb hby d21_3) rfl ?_
    refine XS.iload X11.here hx rfl (hb hby d21_5) rfl ?_
    refine XS.icmpNo X11.here hx rfl (hb hby d21_7) rfl (tlt (by decide : (1 : Int32) < (3 : Int32))).2.1 ?_
    refine XS.aloadN X11.here hx rfl (hb hby d21_10) rfl rfl ?_
    refine XS.iloadN X11.here hx rfl (hb hby d21_11) rfl ?_
    refine X11.caload hx (j := (1 : Int32)) (v := (.int c1)) (by rw [e11]; exact Ar16.1) (State.isArrayOf_alike hZ.alike Ar16.2.1) Ar16.2.2 hin16 hat16 (g := (mkF m 12 #[.val (.ref a0_), .val (.int 1), .val (.ref a2_), .val (.int 1), .val (.int 3), .val (.int 1), .val (.int c0)] [(.int 1), (.ref a0_)])) rfl rfl (hb hby d21_12) _ ?_
    refine XS.istore X11.here hx rfl (hb hby d21_13) rfl (l' := #[.val (.ref a0_), .val (.int 1), .val (.ref a2_), .val (.int 1), .val (.int 3), .val (.int 1), .val (.int c1)]) rfl ?_
    refine XS.iload X11.here hx rfl (hb hby d21_15) rfl ?_
    refine XS.sipush X11.here hx rfl (hb hby d21_17) ?_
    refine XS.icmpYes X11.here hx rfl (pc0 := 20) (pc' := 26) rfl (hb hby d21_20) rfl (flt hcd1).2.2.2 (by decide) (by decide) ?_
    refine XS.aloadN X11.here hx rfl (hb hby d21_26) rfl rfl ?_
    refine XS.iloadN X11.here hx rfl (hb hby d21_27) rfl ?_
    refine XS.iload X11.here hx rfl (hb hby d21_28) rfl ?_
    refine XS.i2b X11.here hx rfl (hb hby d21_30) rfl ?_
    exact kt
  obtain ⟨cl17, Ar17, q17, S17, M17, H17, G17⟩ := id V12
  have hin17 : ¬ ((1 : Int32) < 0 ∨ cl17.slots.size ≤ ((1 : Int32)).toNatClampNeg) := inb_of S17 ⟨by decide, by decide⟩
  obtain ⟨T17, h17, X17, e17, W17, st17⟩ := stB X11 hx hZ e11 Ar17 (j := (1 : Int32)) hin17 (g := (mkF m 31 #[.val (.ref a0_), .val (.int 1), .val (.ref a2_), .val (.int 1), .val (.int 3), .val (.int 1), .val (.int c1)] [(.int (c1.toInt8.toInt32)), (.int 1), (.ref a2_)])) rfl rfl (hb hby d21_31)
  have V18 : Arv Z h17 a2_ kb .byte (3 : Int32) [(.int (nar .byte (c0.toInt8.toInt32))), (.int (nar .byte (c1.toInt8.toInt32))), (.int 0)] (.int 0) := Arv.set Ar17 q17 S17 M17 H17 G17 (fits_nar_byte _) W17 1 rfl (Nat.le_of_ble_eq_true rfl)
  have K19 := K13.wr W17 (Or.inl (List.mem_of_getElem? (i := 0) rfl))
  have O20 := O14.wr W17 g2
  have N17 := Fr.snoc X17 N11 g2
  refine Go.st st17 ?_
  show Go _ _ _ _ _ _ _ (T17.setTop (mkF m 32 _ []))
  have c21 := c15.other W17 hne
  obtain ⟨cl22, Ar22, -, S22, M22, H22, -⟩ := id c21
  have hin22 : ¬ ((2 : Int32) < 0 ∨ cl22.slots.size ≤ ((2 : Int32)).toNatClampNeg) := inb_of S22 ⟨by decide, by decide⟩
  have hat22 : cl22.slots[((2 : Int32)).toNatClampNeg]? = some (.int c2) := H22.at hin22 rfl
  refine Go.st (t' := T17.setTop (mkF m 31 #[.val (.ref a0_), .val (.int 2), .val (.ref a2_), .val (.int 2), .val (.int 3), .val (.int 2), .val (.int c2)] [(.int (c2.toInt8.toInt32)), (.int 2), (.ref a2_)])) (fun target kt => ?_) ?_
  · refine XS.iinc X17.here hx rfl (hb hby d21_32) rfl (l' := #[.val (.ref a0_), .val (.int 2), .val (.ref a2_), .val (.int 1), .val (.int 3), .val (.int 1), .val (.int c1)]) rfl ?_
    refine XS.iinc X17.here hx rfl (hb hby d21_35) rfl (l' := #[.val (.ref a0_), .val (.int 2), .val (.ref a2_), .val (.int 2), .val (.int 3), .val (.int 1), .val (.int c1)]) rfl ?_
    refine XS.iinc X17.here hx rfl (hb hby d21_38) rfl (l' := #[.val (.ref a0_), .val (.int 2), .val (.ref a2_), .val (.int 2), .val (.int 3), .val (.int 2), .val (.int c1)]) rfl ?_
    refine XS.goto X17.here hx rfl (pc0 := 41) (pc' := 3) rfl (hb hby d21_41) (by decide) (by decide) ?_
    refine XS.iload X17.here hx rfl (hb hby d21_3) rfl ?_
    refine XS.iload X17.here hx rfl (hb hby d21_5) rfl ?_
    refine XS.icmpNo X17.here hx rfl (hb hby d21_7) rfl (tlt (by decide : (2 : Int32) < (3 : Int32))).2.1 ?_
    refine XS.aloadN X17.here hx rfl (hb hby d21_10) rfl rfl ?_
    refine XS.iloadN X17.here hx rfl (hb hby d21_11) rfl ?_
    refine X17.caload hx (j := (2 : Int32)) (v := (.int c2)) (by rw [e17]; exact Ar22.1) (State.isArrayOf_alike hZ.alike Ar22.2.1) Ar22.2.2 hin22 hat22 (g := (mkF m 12 #[.val (.ref a0_), .val (.int 2), .val (.ref a2_), .val (.int 2), .val (.int 3), .val (.int 2), .val (.int c1)] [(.int 2), (.ref a0_)])) rfl rfl (hb hby d21_12) _ ?_
    refine XS.istore X17.here hx rfl (hb hby d21_13) rfl (l' := #[.val (.ref a0_), .val (.int 2), .val (.ref a2_), .val (.int 2), .val (.int 3), .val (.int 2), .val (.int c2)]) rfl ?_
    refine XS.iload X17.here hx rfl (hb hby d21_15) rfl ?_
    refine XS.sipush X17.here hx rfl (hb hby d21_17) ?_
    refine XS.icmpYes X17.here hx rfl (pc0 := 20) (pc' := 26) rfl (hb hby d21_20) rfl (flt hcd2).2.2.2 (by decide) (by decide) ?_
    refine XS.aloadN X17.here hx rfl (hb hby d21_26) rfl rfl ?_
    refine XS.iloadN X17.here hx rfl (hb hby d21_27) rfl ?_
    refine XS.iload X17.here hx rfl (hb hby d21_28) rfl ?_
    refine XS.i2b X17.here hx rfl (hb hby d21_30) rfl ?_
    exact kt
  obtain ⟨cl23, Ar23, q23, S23, M23, H23, G23⟩ := id V18
  have hin23 : ¬ ((2 : Int32) < 0 ∨ cl23.slots.size ≤ ((2 : Int32)).toNatClampNeg) := inb_of S23 ⟨by decide, by decide⟩
  obtain ⟨T23, h23, X23, e23, W23, st23⟩ := stB X17 hx hZ e17 Ar23 (j := (2 : Int32)) hin23 (g := (mkF m 31 #[.val (.ref a0_), .val (.int 2), .val (.ref a2_), .val (.int 2), .val (.int 3), .val (.int 2), .val (.int c2)] [(.int (c2.toInt8.toInt32)), (.int 2), (.ref a2_)])) rfl rfl (hb hby d21_31)
  have V24 : Arv Z h23 a2_ kb .byte (3 : Int32) [(.int (nar .byte (c0.toInt8.toInt32))), (.int (nar .byte (c1.toInt8.toInt32))), (.int (nar .byte (c2.toInt8.toInt32)))] (.int 0) := Arv.set Ar23 q23 S23 M23 H23 G23 (fits_nar_byte _) W23 2 rfl (Nat.le_of_ble_eq_true rfl)
  have K25 := K19.wr W23 (Or.inl (List.mem_of_getElem? (i := 0) rfl))
  have O26 := O20.wr W23 g2
  have N23 := Fr.snoc X23 N17 g2
  refine Go.st st23 ?_
  show Go _ _ _ _ _ _ _ (T23.setTop (mkF m 32 _ []))
  refine Go.st (t' := T23.setTop (mkF m 46 #[.val (.ref a0_), .val (.int 3), .val (.ref a2_), .val (.int 3), .val (.int 3), .val (.int 3), .val (.int c2)] [(.int 3)])) (fun target kt => ?_) ?_
  · refine XS.iinc X23.here hx rfl (hb hby d21_32) rfl (l' := #[.val (.ref a0_), .val (.int 3), .val (.ref a2_), .val (.int 2), .val (.int 3), .val (.int 2), .val (.int c2)]) rfl ?_
    refine XS.iinc X23.here hx rfl (hb hby d21_35) rfl (l' := #[.val (.ref a0_), .val (.int 3), .val (.ref a2_), .val (.int 3), .val (.int 3), .val (.int 2), .val (.int c2)]) rfl ?_
    refine XS.iinc X23.here hx rfl (hb hby d21_38) rfl (l' := #[.val (.ref a0_), .val (.int 3), .val (.ref a2_), .val (.int 3), .val (.int 3), .val (.int 3), .val (.int c2)]) rfl ?_
    refine XS.goto X23.here hx rfl (pc0 := 41) (pc' := 3) rfl (hb hby d21_41) (by decide) (by decide) ?_
    refine XS.iload X23.here hx rfl (hb hby d21_3) rfl ?_
    refine XS.iload X23.here hx rfl (hb hby d21_5) rfl ?_
    refine XS.icmpYes X23.here hx rfl (pc0 := 7) (pc' := 44) rfl (hb hby d21_7) rfl (flt (by decide : ¬ ((3 : Int32) < (3 : Int32)))).2.1 (by decide) (by decide) ?_
    refine XS.iload X23.here hx rfl (hb hby d21_44) rfl ?_
    exact kt
  refine Go.ret X23 (v := some (.int 3)) (fun h => by rw [hret] at h; cases h) hlk (fun fs hr => retI X23 hx hret (hb hby d21_46) hr) ?_ (by decide) (by decide)
  show Q21_3 Z a0_ a2_ kc c0 c1 c2 kb h0 n0 _ T23.heap _
  rw [e23]
  exact ⟨(nar .byte (c0.toInt8.toInt32)), (nar .byte (c1.toInt8.toInt32)), (nar .byte (c2.toInt8.toInt32)), rfl, N23, K25, V24⟩
theorem ef20_3 (m : MethodId) (x0 : Addr) : entryFrame m #[(.ref x0), (.int 0), (.int 3)] 6 = mkF m 0 #[.val (.ref x0), .val (.int 0), .val (.int 3), .unset, .unset, .unset] [] := by first | (simp [entryFrame, mkF, argsToLocals, Value.category]; done) | rfl
def Q20_3 (Z : State) (a0_ : Addr) (kc : ClassId) (c0 : Int32) (c1 : Int32) (c2 : Int32) (h0 : Heap) (n0 : Nat) (v : Option Value) (h : Heap) (L : List Loc) : Prop := ∃ (b : Addr) (kb : ClassId) (z0 : Int32) (z1 : Int32) (z2 : Int32), v = some (.ref b) ∧ Fr n0 L ∧ Keep h0 h [] ∧ h0.size ≤ b ∧ Arv Z h b kb .byte (3 : Int32) [(.int z0), (.int z1), (.int z2)] (.int 0)
theorem rm20_3 (l : Launch) (Z : State) (a0 : Array Value) (hw : ∀ d ∈ tables_1, d.before a0 Z = true) (ws : List Jvm.Cond) (a0_ : Addr) (kc : ClassId) (c0 : Int32) (c1 : Int32) (c2 : Int32) (h0 : Heap) (n0 : Nat) (Z0 : n0 ≤ h0.size) (O0 : Old Z n0 h0) (Vc : Arv Z h0 a0_ kc .char (3 : Int32) [(.int c0), (.int c1), (.int c2)] (.int 0)) (hcd0 : ¬ ((255 : Int32) < c0)) (hcd1 : ¬ ((255 : Int32) < c1)) (hcd2 : ¬ ((255 : Int32) < c2)) :
    Met l Z ws (⟨"java/lang/StringUTF16", "compress", "([CII)[B"⟩ : MethodName) jdk_52_method_16_code 6 (some (.array .byte)) (Rm 1 1 3 18) #[(.ref a0_), (.int 0), (.int 3)] h0 (Q20_3 Z a0_ kc c0 c1 c2 h0 n0) := by
  refine Met.enter (L0 := #[.val (.ref a0_), .val (.int 0), .val (.int 3), .unset, .unset, .unset]) (plainFor_of_name pn60) (fun m => ef20_3 m a0_) ?_
  intro p e s m below meth c s₁ hx hby hml hown hnm hret hlk hZ X0 e0
  have N0 := Fr.nil n0
  have K0 : Keep h0 h0 [] := Keep.refl h0 _
  refine Go.st (t' := s₁.setTop (mkF m 1 #[.val (.ref a0_), .val (.int 0), .val (.int 3), .unset, .unset, .unset] [(.int 3)])) (fun target kt => ?_) ?_
  · refine XS.iloadN X0.here hx rfl (hb hby d20_0) rfl ?_
    exact kt
  obtain ⟨T10, h10, k10, X10, e10, E10, A10, B10, st10⟩ := newPE (aty := .byte) X0 hx hZ (hw _ tw17) e0 (g := (mkF m 1 #[.val (.ref a0_), .val (.int 0), .val (.int 3), .unset, .unset, .unset] [(.int 3)])) rfl (hb hby d20_1) rfl (by decide) (cap := 3) (by decide) (by decide) (by decide) (by decide) (ad := "[B") (by decide)
  obtain ⟨b10, g10⟩ : ∃ z, z = h0.size := ⟨_, rfl⟩
  rw [← g10] at A10 B10 st10
  have lb11 : h0.size ≤ b10 := Nat.le_of_eq g10.symm
  have sz12 : h0.size ≤ b10 := Nat.le_trans K0.1 lb11
  have g13 : n0 ≤ b10 := Nat.le_trans Z0 sz12
  have K14 := K0.ext E10
  have O15 := O0.ext E10
  have V16 : Arv Z h10 b10 k10 .byte (3 : Int32) [(.int 0), (.int 0), (.int 0)] (.int 0) := (Arv.new A10 (by decide)).pad (pad_rep [] (.int 0) 3)
  refine Go.st st10 ?_
  show Go _ _ _ _ _ _ _ (T10.setTop (mkF m 3 _ [(.ref b10)]))
  refine Go.st (t' := T10.setTop (mkF m 9 #[.val (.ref a0_), .val (.int 0), .val (.int 3), .val (.ref b10), .unset, .unset] [(.int 3), (.int 0), (.ref b10), (.int 0), (.ref a0_)])) (fun target kt => ?_) ?_
  · refine XS.astoreN X10.here hx rfl (hb hby d20_3) rfl rfl (l' := #[.val (.ref a0_), .val (.int 0), .val (.int 3), .val (.ref b10), .unset, .unset]) rfl ?_
    refine XS.aloadN X10.here hx rfl (hb hby d20_4) rfl rfl ?_
    refine XS.iloadN X10.here hx rfl (hb hby d20_5) rfl ?_
    refine XS.aloadN X10.here hx rfl (hb hby d20_6) rfl rfl ?_
    refine XS.iconst X10.here hx rfl (hb hby d20_7) ?_
    refine XS.iloadN X10.here hx rfl (hb hby d20_8) rfl ?_
    exact kt
  have c17 := Vc.ext E10
  have o18 : a0_ < b10 := Nat.lt_of_lt_of_le Vc.lt lb11
  have ne19 : a0_ ≠ b10 := Nat.ne_of_lt o18
  obtain ⟨_, _, ⟨T20, L20, k20, n20⟩, -, X20, ⟨Lc20, hQ20, l20, y20, z20⟩, st20⟩ := Jvm.LawKit.callS X10 hx (y := (⟨"java/lang/StringUTF16", "compress", "([CI[BII)I"⟩ : MethodName)) hown (mvT hZ (hw _ tw133)) (mvT hZ (hw _ tw134)) (mvT hZ (hw _ tw131)) (mvT hZ (hw _ tw135)) (by decide) (backOf (W := 0) (rm21_3 l Z a0 hw [] a0_ b10 kc c0 c1 c2 k10 h10 n0 (Nat.le_trans Z0 K14.1) O15  c17 V16 g13 ne19 hcd0 hcd1 hcd2) hZ (hw _ tw135) (hw _ tw131) (by decide) (by decide)) (g := (mkF m 9 #[.val (.ref a0_), .val (.int 0), .val (.int 3), .val (.ref b10), .unset, .unset] [(.int 3), (.int 0), (.ref b10), (.int 0), (.ref a0_)])) rfl (by rw [hml]; rfl) (argsL := [(.ref a0_), (.int 0), (.ref b10), (.int 0), (.int 3)]) (rest := []) (lenOf pd3 rfl) rfl (by show 2 * 0 + _ ≤ _; exact Nat.le_of_eq rfl) (hb hby d20_9) (fun _ _ => ⟨rfl, e10, (by decide : 1 + 0 ≤ _), (by decide : 3 + 0 ≤ _)⟩)
  dsimp only [Pt.U, Pt.locs, Pt.cells, Pt.slots] at X20 l20 y20 z20 st20 hQ20
  subst l20 y20 z20
  obtain ⟨i21, i22, i23, rfl, Nq20, Kq20, q24⟩ := hQ20
  have N20 := Fr.app N0 Nq20
  have K25 := K14.trans Kq20 (allS (Or.inr sz12) all0)
  have O26 := O15.keep Kq20 (allS g13 all0)
  refine Go.st st20 ?_
  show Go _ _ _ _ _ _ _ (T20.setTop (mkF m 12 _ [(.int 3)]))
  refine Go.st (t' := T20.setTop (mkF m 58 #[.val (.ref a0_), .val (.int 0), .val (.int 3), .val (.ref b10), .val (.int 3), .unset] [(.ref b10)])) (fun target kt => ?_) ?_
  · refine XS.istore X20.here hx rfl (hb hby d20_12) rfl (l' := #[.val (.ref a0_), .val (.int 0), .val (.int 3), .val (.ref b10), .val (.int 3), .unset]) rfl ?_
    refine XS.iload X20.here hx rfl (hb hby d20_14) rfl ?_
    refine XS.iloadN X20.here hx rfl (hb hby d20_16) rfl ?_
    refine XS.icmpYes X20.here hx rfl (pc0 := 17) (pc' := 57) rfl (hb hby d20_17) rfl (teq (by decide : (3 : Int32) = (3 : Int32))).1 (by decide) (by decide) ?_
    refine XS.aloadN X20.here hx rfl (hb hby d20_57) rfl rfl ?_
    exact kt
  refine Go.ret X20 (v := some (.ref b10)) (fun h => by rw [hret] at h; cases h) hlk (fun fs hr => retR X20 hx hret rfl rfl (hb hby d20_58) hr) ?_ (by decide) (by decide)
  show Q20_3 Z a0_ kc c0 c1 c2 h0 n0 _ T20.heap _
  exact ⟨b10, k10, i21, i22, i23, rfl, N20, K25, sz12, q24⟩
theorem ef22_3 (m : MethodId) (x0 : Addr) : entryFrame m #[(.ref x0), (.int 3)] 2 = mkF m 0 #[.val (.ref x0), .val (.int 3)] [] := by first | (simp [entryFrame, mkF, argsToLocals, Value.category]; done) | rfl
def Q22_3 (Z : State) (a0_ : Addr) (kb : ClassId) (z0 : Int32) (z1 : Int32) (z2 : Int32) (h0 : Heap) (n0 : Nat) (v : Option Value) (h : Heap) (L : List Loc) : Prop := v = some (.int 0) ∧ Fr n0 L ∧ h = h0
theorem rm22_3 (l : Launch) (Z : State) (a0 : Array Value) (hw : ∀ d ∈ tables_1, d.before a0 Z = true) (ws : List Jvm.Cond) (a0_ : Addr) (kb : ClassId) (z0 : Int32) (z1 : Int32) (z2 : Int32) (h0 : Heap) (n0 : Nat) (Z0 : n0 ≤ h0.size) (O0 : Old Z n0 h0) (V : Arv Z h0 a0_ kb .byte (3 : Int32) [(.int z0), (.int z1), (.int z2)] (.int 0)) :
    Met l Z ws (⟨"java/lang/StringUTF16", "coderFromArrayLen", "([BI)B"⟩ : MethodName) jdk_52_method_15_code 2 (some .byte) (Rm 0 0 0 0) #[(.ref a0_), (.int 3)] h0 (Q22_3 Z a0_ kb z0 z1 z2 h0 n0) := by
  refine Met.enter (L0 := #[.val (.ref a0_), .val (.int 3)]) (plainFor_of_name pn60) (fun m => ef22_3 m a0_) ?_
  intro p e s m below meth c s₁ hx hby hml hown hnm hret hlk hZ X0 e0
  have N0 := Fr.nil n0
  have K0 : Keep h0 h0 [] := Keep.refl h0 _
  obtain ⟨cl10, Ar10, -, S10, M10, -, -⟩ := id V
  refine Go.st (t' := s₁.setTop (mkF m 8 #[.val (.ref a0_), .val (.int 3)] [(.int 0)])) (fun target kt => ?_) ?_
  · refine XS.iloadN X0.here hx rfl (hb hby d22_0) rfl ?_
    refine XS.aloadN X0.here hx rfl (hb hby d22_1) rfl rfl ?_
    refine X0.arraylength hx (by rw [e0]; exact Ar10.1) (State.isArrayOf_alike hZ.alike Ar10.2.1) (g := (mkF m 2 #[.val (.ref a0_), .val (.int 3)] [(.ref a0_), (.int 3)])) rfl rfl (hb hby d22_2) _ ?_
    rw [len_of S10 M10]
    refine XS.isub X0.here hx rfl (hb hby d22_3) rfl ?_
    refine XS.bipush X0.here hx rfl (hb hby d22_4) ?_
    refine XS.iushr X0.here hx rfl (hb hby d22_6) rfl ?_
    refine XS.i2b X0.here hx rfl (hb hby d22_7) rfl ?_
    exact kt
  refine Go.ret X0 (v := some (.int 0)) (fun h => by rw [hret] at h; cases h) hlk (fun fs hr => retN X0 hx (t := .byte) hret (by simp) (hb hby d22_8) hr) ?_ (by decide) (by decide)
  show Q22_3 Z a0_ kb z0 z1 z2 h0 n0 _ s₁.heap _
  rw [e0]
  exact ⟨rfl, N0, rfl⟩
theorem ef19_3 (m : MethodId) (x0 : Addr) (x1 : Addr) : entryFrame m #[(.ref x0), (.ref x1), (.int 0), (.int 3), .null] 6 = mkF m 0 #[.val (.ref x0), .val (.ref x1), .val (.int 0), .val (.int 3), .val .null, .unset] [] := by first | (simp [entryFrame, mkF, argsToLocals, Value.category]; done) | rfl
def Q19_3 (Z : State) (a0_ : Addr) (a1_ : Addr) (kc : ClassId) (c0 : Int32) (c1 : Int32) (c2 : Int32) (wcs : Int32) (h0 : Heap) (n0 : Nat) (v : Option Value) (h : Heap) (L : List Loc) : Prop := v = none ∧ Fr n0 L ∧ Keep h0 h [a0_] ∧ Exa Z h a0_ "java/lang/String"
theorem rm19_3 (l : Launch) (Z : State) (a0 : Array Value) (hw : ∀ d ∈ tables_1, d.before a0 Z = true) (ws : List Jvm.Cond) (a0_ : Addr) (a1_ : Addr) (kc : ClassId) (c0 : Int32) (c1 : Int32) (c2 : Int32) (wcs : Int32) (h0 : Heap) (n0 : Nat) (Z0 : n0 ≤ h0.size) (O0 : Old Z n0 h0) (S_CS : Sta Z Z.heap "java/lang/String" "COMPACT_STRINGS" "Z" (.int wcs)) (hcs : ¬ (wcs = (0 : Int32))) (g0 : n0 ≤ a0_) (E0 : Exa Z h0 a0_ "java/lang/String") (Fv : Fld Z h0 a0_ "java/lang/String" "value" "[B" .null) (Fc : Fld Z h0 a0_ "java/lang/String" "coder" "B" (.int 0)) (Vc : Arv Z h0 a1_ kc .char (3 : Int32) [(.int c0), (.int c1), (.int c2)] (.int 0)) (hne : a1_ ≠ a0_) (hcd0 : ¬ ((255 : Int32) < c0)) (hcd1 : ¬ ((255 : Int32) < c1)) (hcd2 : ¬ ((255 : Int32) < c2)) :
    Met l Z ws (⟨"java/lang/String", "<init>", "([CIILjava/lang/Void;)V"⟩ : MethodName) jdk_42_method_149_code 6 none (Rm 2 1 3 35) #[(.ref a0_), (.ref a1_), (.int 0), (.int 3), .null] h0 (Q19_3 Z a0_ a1_ kc c0 c1 c2 wcs h0 n0) := by
  refine Met.enter (L0 := #[.val (.ref a0_), .val (.ref a1_), .val (.int 0), .val (.int 3), .val .null, .unset]) (plainFor_of_name pn24) (fun m => ef19_3 m a0_ a1_) ?_
  intro p e s m below meth c s₁ hx hby hml hown hnm hret hlk hZ X0 e0
  have N0 := Fr.nil n0
  have K0 : Keep h0 h0 [a0_] := Keep.refl h0 _
  refine Go.st (t' := s₁.setTop (mkF m 1 #[.val (.ref a0_), .val (.ref a1_), .val (.int 0), .val (.int 3), .val .null, .unset] [(.ref a0_)])) (fun target kt => ?_) ?_
  · refine XS.aloadN X0.here hx rfl (hb hby d19_0) rfl rfl ?_
    exact kt
  obtain ⟨T10, X10, e10, st10⟩ := initO X0 hx hZ hown (hw _ tw22) (hw _ tw23) (hw _ tw24) e0 (g := (mkF m 1 #[.val (.ref a0_), .val (.ref a1_), .val (.int 0), .val (.int 3), .val .null, .unset] [(.ref a0_)])) rfl (by rw [hml]; rfl) rfl (hb hby d19_1) (by decide) (W := 0) (by show 2 * 0 + _ ≤ _; exact Nat.le_of_eq rfl) (by decide)
  refine Go.st st10 ?_
  show Go _ _ _ _ _ _ _ (T10.setTop (mkF m 4 _ []))
  refine Go.st (t' := T10.setTop (mkF m 27 #[.val (.ref a0_), .val (.ref a1_), .val (.int 0), .val (.int 3), .val .null, .unset] [])) (fun target kt => ?_) ?_
  · refine XS.iloadN X10.here hx rfl (hb hby d19_4) rfl ?_
    refine XS.ifYes X10.here hx rfl (pc0 := 5) (pc' := 27) rfl (hb hby d19_5) rfl ((if0 _ _).trans (feq (by decide : ¬ ((3 : Int32) = (0 : Int32)))).2) (by decide) (by decide) ?_
    exact kt
  obtain ⟨T11, X11, e11, st11⟩ := getS2 X10 hx hZ hown (host := "") (Or.inl (hw _ tw7)) Via.refl e10 (S_CS.ext O0.2) (g := (mkF m 27 #[.val (.ref a0_), .val (.ref a1_), .val (.int 0), .val (.int 3), .val .null, .unset] [])) rfl (hb hby d19_27)
  refine Go.st st11 ?_
  show Go _ _ _ _ _ _ _ (T11.setTop (mkF m 30 _ [(.int wcs)]))
  refine Go.st (t' := T11.setTop (mkF m 36 #[.val (.ref a0_), .val (.ref a1_), .val (.int 0), .val (.int 3), .val .null, .unset] [(.int 3), (.int 0), (.ref a1_)])) (fun target kt => ?_) ?_
  · refine XS.ifNo X11.here hx rfl (hb hby d19_30) rfl ((if0 _ _).trans (feq hcs).1) ?_
    refine XS.aloadN X11.here hx rfl (hb hby d19_33) rfl rfl ?_
    refine XS.iloadN X11.here hx rfl (hb hby d19_34) rfl ?_
    refine XS.iloadN X11.here hx rfl (hb hby d19_35) rfl ?_
    exact kt
  obtain ⟨_, _, ⟨T12, L12, k12, n12⟩, -, X12, ⟨Lc12, hQ12, l12, y12, z12⟩, st12⟩ := Jvm.LawKit.callS X11 hx (y := (⟨"java/lang/StringUTF16", "compress", "([CII)[B"⟩ : MethodName)) hown (mvT hZ (hw _ tw129)) (mvT hZ (hw _ tw130)) (mvT hZ (hw _ tw131)) (mvT hZ (hw _ tw132)) (by decide) (backOf (W := 0) (rm20_3 l Z a0 hw [] a1_ kc c0 c1 c2 h0 n0 (Nat.le_trans Z0 K0.1) O0  Vc hcd0 hcd1 hcd2) hZ (hw _ tw132) (hw _ tw131) (by decide) (by decide)) (g := (mkF m 36 #[.val (.ref a0_), .val (.ref a1_), .val (.int 0), .val (.int 3), .val .null, .unset] [(.int 3), (.int 0), (.ref a1_)])) rfl (by rw [hml]; rfl) (argsL := [(.ref a1_), (.int 0), (.int 3)]) (rest := []) (lenOf pd4 rfl) rfl (by show 2 * 0 + _ ≤ _; exact Nat.le_of_eq rfl) (hb hby d19_36) (fun _ _ => ⟨rfl, e11, (by decide : 0 + 1 ≤ _), (by decide : 0 + 3 ≤ _)⟩)
  dsimp only [Pt.U, Pt.locs, Pt.cells, Pt.slots] at X12 l12 y12 z12 st12 hQ12
  subst l12 y12 z12
  obtain ⟨b13, k14, i15, i16, i17, rfl, Nq12, Kq12, q18, q19⟩ := hQ12
  have N12 := Fr.app N0 Nq12
  have sz20 : h0.size ≤ b13 := Nat.le_trans K0.1 q18
  have g21 : n0 ≤ b13 := Nat.le_trans Z0 sz20
  have K22 := K0.trans Kq12 all0
  have O23 := O0.keep Kq12 all0
  refine Go.st st12 ?_
  show Go _ _ _ _ _ _ _ (T12.setTop (mkF m 39 _ [(.ref b13)]))
  refine Go.st (t' := T12.setTop (mkF m 45 #[.val (.ref a0_), .val (.ref a1_), .val (.int 0), .val (.int 3), .val .null, .val (.ref b13)] [(.int 3), (.ref b13), (.ref a0_)])) (fun target kt => ?_) ?_
  · refine XS.astore X12.here hx rfl (hb hby d19_39) rfl rfl (l' := #[.val (.ref a0_), .val (.ref a1_), .val (.int 0), .val (.int 3), .val .null, .val (.ref b13)]) rfl ?_
    refine XS.aloadN X12.here hx rfl (hb hby d19_41) rfl rfl ?_
    refine XS.aload X12.here hx rfl (hb hby d19_42) rfl rfl ?_
    refine XS.iloadN X12.here hx rfl (hb hby d19_44) rfl ?_
    exact kt
  obtain ⟨_, _, ⟨T24, L24, k24, n24⟩, -, X24, ⟨Lc24, hQ24, l24, y24, z24⟩, st24⟩ := Jvm.LawKit.callS X12 hx (y := (⟨"java/lang/StringUTF16", "coderFromArrayLen", "([BI)B"⟩ : MethodName)) hown (mvT hZ (hw _ tw136)) (mvT hZ (hw _ tw137)) (mvT hZ (hw _ tw131)) (mvT hZ (hw _ tw138)) (by decide) (backOf (W := 1) (rm22_3 l Z a0 hw [] b13 k14 i15 i16 i17 T12.heap n0 (Nat.le_trans Z0 K22.1) O23  q19) hZ (hw _ tw138) (hw _ tw131) (by decide) (by decide)) (g := (mkF m 45 #[.val (.ref a0_), .val (.ref a1_), .val (.int 0), .val (.int 3), .val .null, .val (.ref b13)] [(.int 3), (.ref b13), (.ref a0_)])) rfl (by rw [hml]; rfl) (argsL := [(.ref b13), (.int 3)]) (rest := [(.ref a0_)]) (lenOf pd5 rfl) rfl (by show 2 * 0 + _ ≤ _; exact Nat.le_of_eq rfl) (hb hby d19_45) (fun _ _ => ⟨rfl, rfl, (by decide : 1 + 0 ≤ _), (by decide : 3 + 0 ≤ _)⟩)
  dsimp only [Pt.U, Pt.locs, Pt.cells, Pt.slots] at X24 l24 y24 z24 st24 hQ24
  subst l24 y24 z24
  obtain ⟨rfl, Nq24, eq24⟩ := hQ24
  have N24 := Fr.app N12 Nq24
  refine Go.st st24 ?_
  show Go _ _ _ _ _ _ _ (T24.setTop (mkF m 48 _ [(.int 0), (.ref a0_)]))
  have c25 := Fc.keep Kq12 nin0
  have c26 := E0.keep Kq12
  obtain ⟨T27, h27, X27, e27, W27, st27⟩ := putFN X24 hx hZ hown (hw _ tw27) Via.refl eq24 c25 c26 (Or.inr ⟨(hw _ tw28), rfl, hnm⟩) (hw _ tw13) (ty := .byte) (v' := (.int 0)) (by decide) rfl (by decide) (g := (mkF m 48 #[.val (.ref a0_), .val (.ref a1_), .val (.int 0), .val (.int 3), .val .null, .val (.ref b13)] [(.int 0), (.ref a0_)])) rfl rfl (hb hby d19_48)
  have F28 : Fld Z h27 a0_ "java/lang/String" "coder" "B" (.int 0) := c25.same W27
  have K29 := K22.wr W27 (Or.inl (List.mem_of_getElem? (i := 0) rfl))
  have O30 := O23.wr W27 g0
  have N27 := Fr.snoc X27 N24 g0
  refine Go.st st27 ?_
  show Go _ _ _ _ _ _ _ (T27.setTop (mkF m 51 _ []))
  refine Go.st (t' := T27.setTop (mkF m 54 #[.val (.ref a0_), .val (.ref a1_), .val (.int 0), .val (.int 3), .val .null, .val (.ref b13)] [(.ref b13), (.ref a0_)])) (fun target kt => ?_) ?_
  · refine XS.aloadN X27.here hx rfl (hb hby d19_51) rfl rfl ?_
    refine XS.aload X27.here hx rfl (hb hby d19_52) rfl rfl ?_
    exact kt
  have c31 := (Fv.keep Kq12 nin0).other W27 (Or.inr (slot_ne (Or.inr (hw _ tw26)) (Or.inr (hw _ tw28)) (by decide) (t := (.array .byte)) (t' := .byte) (by decide) (by decide)))
  have c32 := c26.wr W27
  obtain ⟨T33, h33, X33, e33, W33, st33⟩ := putF X27 hx hZ hown (host := "") (Or.inl (hw _ tw25)) Via.refl e27 c31 c32 (Or.inr ⟨(hw _ tw26), rfl, hnm⟩) (hw _ tw13) (ty := (.array .byte)) (by decide) rfl rfl (g := (mkF m 54 #[.val (.ref a0_), .val (.ref a1_), .val (.int 0), .val (.int 3), .val .null, .val (.ref b13)] [(.ref b13), (.ref a0_)])) rfl rfl (hb hby d19_54)
  have F34 : Fld Z h33 a0_ "java/lang/String" "value" "[B" (.ref b13) := c31.same W33
  have K35 := K29.wr W33 (Or.inl (List.mem_of_getElem? (i := 0) rfl))
  have O36 := O30.wr W33 g0
  have N33 := Fr.snoc X33 N27 g0
  refine Go.st st33 ?_
  show Go _ _ _ _ _ _ _ (T33.setTop (mkF m 57 _ []))
  have c37 := c32.wr W33
  refine Go.ret X33 (v := none) (fun _ => rfl) hlk (fun fs hr => X33.returnOut hx hret (hb hby d19_57) hr) ?_ (by decide) (by decide)
  show Q19_3 Z a0_ a1_ kc c0 c1 c2 wcs h0 n0 _ T33.heap _
  rw [e33]
  exact ⟨rfl, N33, K35, c37⟩
theorem ef18_3 (m : MethodId) (x0 : Addr) (x1 : Addr) : entryFrame m #[(.ref x0), (.ref x1)] 2 = mkF m 0 #[.val (.ref x0), .val (.ref x1)] [] := by first | (simp [entryFrame, mkF, argsToLocals, Value.category]; done) | rfl
def Q18_3 (Z : State) (a0_ : Addr) (a1_ : Addr) (kc : ClassId) (c0 : Int32) (c1 : Int32) (c2 : Int32) (wcs : Int32) (h0 : Heap) (n0 : Nat) (v : Option Value) (h : Heap) (L : List Loc) : Prop := v = none ∧ Fr n0 L ∧ Keep h0 h [a0_] ∧ Exa Z h a0_ "java/lang/String"
theorem rm18_3 (l : Launch) (Z : State) (a0 : Array Value) (hw : ∀ d ∈ tables_1, d.before a0 Z = true) (ws : List Jvm.Cond) (a0_ : Addr) (a1_ : Addr) (kc : ClassId) (c0 : Int32) (c1 : Int32) (c2 : Int32) (wcs : Int32) (h0 : Heap) (n0 : Nat) (Z0 : n0 ≤ h0.size) (O0 : Old Z n0 h0) (S_CS : Sta Z Z.heap "java/lang/String" "COMPACT_STRINGS" "Z" (.int wcs)) (hcs : ¬ (wcs = (0 : Int32))) (g0 : n0 ≤ a0_) (E0 : Exa Z h0 a0_ "java/lang/String") (Fv : Fld Z h0 a0_ "java/lang/String" "value" "[B" .null) (Fc : Fld Z h0 a0_ "java/lang/String" "coder" "B" (.int 0)) (Vc : Arv Z h0 a1_ kc .char (3 : Int32) [(.int c0), (.int c1), (.int c2)] (.int 0)) (hne : a1_ ≠ a0_) (hcd0 : ¬ ((255 : Int32) < c0)) (hcd1 : ¬ ((255 : Int32) < c1)) (hcd2 : ¬ ((255 : Int32) < c2)) :
    Met l Z ws (⟨"java/lang/String", "<init>", "([C)V"⟩ : MethodName) jdk_42_method_3_code 2 none (Rm 3 1 3 52) #[(.ref a0_), (.ref a1_)] h0 (Q18_3 Z a0_ a1_ kc c0 c1 c2 wcs h0 n0) := by
  refine Met.enter (L0 := #[.val (.ref a0_), .val (.ref a1_)]) (plainFor_of_name pn24) (fun m => ef18_3 m a0_ a1_) ?_
  intro p e s m below meth c s₁ hx hby hml hown hnm hret hlk hZ X0 e0
  have N0 := Fr.nil n0
  have K0 : Keep h0 h0 [a0_] := Keep.refl h0 _
  obtain ⟨cl10, Ar10, -, S10, M10, -, -⟩ := id Vc
  refine Go.st (t' := s₁.setTop (mkF m 6 #[.val (.ref a0_), .val (.ref a1_)] [.null, (.int 3), (.int 0), (.ref a1_), (.ref a0_)])) (fun target kt => ?_) ?_
  · refine XS.aloadN X0.here hx rfl (hb hby d18_0) rfl rfl ?_
    refine XS.aloadN X0.here hx rfl (hb hby d18_1) rfl rfl ?_
    refine XS.iconst X0.here hx rfl (hb hby d18_2) ?_
    refine XS.aloadN X0.here hx rfl (hb hby d18_3) rfl rfl ?_
    refine X0.arraylength hx (by rw [e0]; exact Ar10.1) (State.isArrayOf_alike hZ.alike Ar10.2.1) (g := (mkF m 4 #[.val (.ref a0_), .val (.ref a1_)] [(.ref a1_), (.int 0), (.ref a1_), (.ref a0_)])) rfl rfl (hb hby d18_4) _ ?_
    rw [len_of S10 M10]
    refine XS.aconstNull X0.here hx rfl (hb hby d18_5) ?_
    exact kt
  obtain ⟨_, _, ⟨T11, L11, k11, n11⟩, -, X11, ⟨Lc11, hQ11, l11, y11, z11⟩, st11⟩ := X0.specialBack hx (y := (⟨"java/lang/String", "<init>", "([CIILjava/lang/Void;)V"⟩ : MethodName)) rfl hown (mvT hZ (hw _ tw126)) (mvT hZ (hw _ tw127)) (mvT hZ (hw _ tw128)) (by decide) (backOf (W := 0) (rm19_3 l Z a0 hw [] a0_ a1_ kc c0 c1 c2 wcs h0 n0 (Nat.le_trans Z0 K0.1) O0 S_CS hcs g0 E0 Fv Fc Vc hne hcd0 hcd1 hcd2) hZ (hw _ tw128) (hw _ tw5) (by decide) (by decide)) (g := (mkF m 6 #[.val (.ref a0_), .val (.ref a1_)] [.null, (.int 3), (.int 0), (.ref a1_), (.ref a0_)])) rfl (by rw [hml]; rfl) (Steps.refl _) (a := a0_) (argsL := [(.ref a1_), (.int 0), (.int 3), .null]) (rest := []) (lenOf pd6 rfl) rfl (by show 2 * 0 + _ ≤ _; exact Nat.le_of_eq rfl) (hb hby d18_6) (fun _ _ => ⟨rfl, e0, (by decide : 0 + 1 ≤ _), (by decide : 0 + 3 ≤ _)⟩)
  dsimp only [Pt.U, Pt.locs, Pt.cells, Pt.slots] at X11 l11 y11 z11 st11 hQ11
  subst l11 y11 z11
  obtain ⟨rfl, Nq11, Kq11, q12⟩ := hQ11
  have N11 := Fr.app N0 Nq11
  have K13 := K0.trans Kq11 (allS (Or.inl (List.mem_of_getElem? (i := 0) rfl)) all0)
  have O14 := O0.keep Kq11 (allS g0 all0)
  refine Go.by st11 ?_
  show Go _ _ _ _ _ _ _ (T11.setTop (mkF m 9 _ []))
  refine Go.ret X11 (v := none) (fun _ => rfl) hlk (fun fs hr => X11.returnOut hx hret (hb hby d18_9) hr) ?_ (by decide) (by decide)
  show Q18_3 Z a0_ a1_ kc c0 c1 c2 wcs h0 n0 _ T11.heap _
  exact ⟨rfl, N11, K13, q12⟩
theorem d19_8 : decode jdk_42_method_149_code 8 = .ok (.aload_n 0, 1) := by decide +kernel
theorem d19_9 : decode jdk_42_method_149_code 9 = .ok (.ldc 7, 2) := by decide +kernel
theorem d19_11 : decode jdk_42_method_149_code 11 = .ok (.getfield 9, 3) := by decide +kernel
theorem d19_14 : decode jdk_42_method_149_code 14 = .ok (.putfield 9, 3) := by decide +kernel
theorem d19_17 : decode jdk_42_method_149_code 17 = .ok (.aload_n 0, 1) := by decide +kernel
theorem d19_18 : decode jdk_42_method_149_code 18 = .ok (.ldc 7, 2) := by decide +kernel
theorem d19_20 : decode jdk_42_method_149_code 20 = .ok (.getfield 15, 3) := by decide +kernel
theorem d19_23 : decode jdk_42_method_149_code 23 = .ok (.putfield 15, 3) := by decide +kernel
theorem d19_26 : decode jdk_42_method_149_code 26 = .ok (.return_, 1) := by decide +kernel
theorem ef19_0 (m : MethodId) (x0 : Addr) (x1 : Addr) : entryFrame m #[(.ref x0), (.ref x1), (.int 0), (.int 0), .null] 6 = mkF m 0 #[.val (.ref x0), .val (.ref x1), .val (.int 0), .val (.int 0), .val .null, .unset] [] := by first | (simp [entryFrame, mkF, argsToLocals, Value.category]; done) | rfl
def Q19_0 (Z : State) (a0_ : Addr) (a1_ : Addr) (h0 : Heap) (n0 : Nat) (v : Option Value) (h : Heap) (L : List Loc) : Prop := v = none ∧ Fr n0 L ∧ Keep h0 h [a0_] ∧ Exa Z h a0_ "java/lang/String"
theorem rm19_0 (l : Launch) (Z : State) (a0 : Array Value) (hw : ∀ d ∈ tables_1, d.before a0 Z = true) (ws : List Jvm.Cond) (a0_ : Addr) (a1_ : Addr) (h0 : Heap) (n0 : Nat) (Z0 : n0 ≤ h0.size) (O0 : Old Z n0 h0) (g0 : n0 ≤ a0_) (E0 : Exa Z h0 a0_ "java/lang/String") (Fv : Fld Z h0 a0_ "java/lang/String" "value" "[B" .null) (Fc : Fld Z h0 a0_ "java/lang/String" "coder" "B" (.int 0)) :
    MetP EL0 [a0_] l Z ws (⟨"java/lang/String", "<init>", "([CIILjava/lang/Void;)V"⟩ : MethodName) jdk_42_method_149_code 6 none (Rm 1 4 8 12) #[(.ref a0_), (.ref a1_), (.int 0), (.int 0), .null] h0 (Q19_0 Z a0_ a1_ h0 n0) := by
  refine MetP.enter (L0 := #[.val (.ref a0_), .val (.ref a1_), .val (.int 0), .val (.int 0), .val .null, .unset]) (plainFor_of_name pn24) (fun m => ef19_0 m a0_ a1_) ?_
  intro p e s m below meth c s₁ hx hby hml hown hnm hret hlk hZ X0 e0 hH hsx
  have N0 := Fr.nil n0
  have K0 : Keep h0 h0 [a0_] := Keep.refl h0 _
  have hSi : s.Since s.vm 0 := (State.WarmedH.refl s).since 0
  have wS : ∀ a ∈ Bundle.stringAtoms, a.before a0 Z = true := own_wS hw
  have ch0 := CHr.refl hH
  have hEL : EW Z a0 EL0 := own_EL hw
  refine GoW.st (t' := s₁.setTop (mkF m 1 #[.val (.ref a0_), .val (.ref a1_), .val (.int 0), .val (.int 0), .val .null, .unset] [(.ref a0_)])) (fun target kt => ?_) ?_
  · refine XS.aloadN X0.here hx rfl (hb hby d19_0) rfl rfl ?_
    exact kt
  obtain ⟨T10, X10, e10, st10⟩ := initO X0 hx hZ hown (hw _ tw22) (hw _ tw23) (hw _ tw24) e0 (g := (mkF m 1 #[.val (.ref a0_), .val (.ref a1_), .val (.int 0), .val (.int 0), .val .null, .unset] [(.ref a0_)])) rfl (by rw [hml]; rfl) rfl (hb hby d19_1) (by decide) (W := 0) (by show 2 * 0 + _ ≤ _; exact Nat.le_of_eq rfl) (by decide)
  refine GoW.st st10 ?_
  show GoW _ _ _ _ _ _ _ (T10.setTop (mkF m 4 _ []))
  refine GoW.st (t' := T10.setTop (mkF m 9 #[.val (.ref a0_), .val (.ref a1_), .val (.int 0), .val (.int 0), .val .null, .unset] [(.ref a0_)])) (fun target kt => ?_) ?_
  · refine XS.iloadN X10.here hx rfl (hb hby d19_4) rfl ?_
    refine XS.ifNo X10.here hx rfl (hb hby d19_5) rfl ((if0 _ _).trans (teq (by decide : (0 : Int32) = (0 : Int32))).2) ?_
    refine XS.aloadN X10.here hx rfl (hb hby d19_8) rfl rfl ?_
    exact kt
  obtain ⟨b11, T11, h11, k11, bv11, kb11, X11, e11, E11, hSi, hk11, hZ, hown, Es11, Fc11, Fv11, Vb11, lta11, ltb11, A11, -, hsf11, st11⟩ := ldcCH X10 hx hZ hown (hw _ tw144) wS e10 hSi (Nat.zero_le _) hEL (by decide) ch0.1 (vs := []) (z := (0 : Int32)) (by decide) (by decide) (by decide) (g := (mkF m 9 #[.val (.ref a0_), .val (.ref a1_), .val (.int 0), .val (.int 0), .val .null, .unset] [(.ref a0_)])) rfl (hb hby d19_9) (n := 0) (by decide) (by decide) (by decide) (by decide)
  have ch11 := ch0.trans A11
  have K12 := K0.ext E11
  have O13 := O0.ext E11
  have ne14 : a0_ ≠ b11 := (hsf11 _ (CHr.safe A11 E0.lt (hsx _ (List.mem_of_getElem? (i := 0) rfl)))).1
  have ne15 : a0_ ≠ bv11 := (hsf11 _ (CHr.safe A11 E0.lt (hsx _ (List.mem_of_getElem? (i := 0) rfl)))).2
  refine GoW.st st11 ?_
  show GoW _ _ _ _ _ _ _ (T11.setTop (mkF m 11 _ [(.ref b11), (.ref a0_)]))
  obtain ⟨T16, X16, e16, st16⟩ := getF X11 hx hZ hown (host := "") (Or.inl (hw _ tw25)) Via.refl e11 Fv11 (g := (mkF m 11 #[.val (.ref a0_), .val (.ref a1_), .val (.int 0), .val (.int 0), .val .null, .unset] [(.ref b11), (.ref a0_)])) rfl rfl (hb hby d19_11)
  refine GoW.st st16 ?_
  show GoW _ _ _ _ _ _ _ (T16.setTop (mkF m 14 _ [(.ref bv11), (.ref a0_)]))
  have c17 := Fv.ext E11
  have c18 := E0.ext E11
  obtain ⟨T19, h19, X19, e19, W19, st19⟩ := putF X16 hx hZ hown (host := "") (Or.inl (hw _ tw25)) Via.refl e16 c17 c18 (Or.inr ⟨(hw _ tw26), rfl, hnm⟩) (hw _ tw13) (ty := (.array .byte)) (by decide) rfl rfl (g := (mkF m 14 #[.val (.ref a0_), .val (.ref a1_), .val (.int 0), .val (.int 0), .val .null, .unset] [(.ref bv11), (.ref a0_)])) rfl rfl (hb hby d19_14)
  have F20 : Fld Z h19 a0_ "java/lang/String" "value" "[B" (.ref bv11) := c17.same W19
  have A21 := CHr.wr W19 (CHr.safe A11 E0.lt (hsx _ (List.mem_of_getElem? (i := 0) rfl))) ch11.1
  have ch21 := ch11.trans A21
  have K22 := K12.wr W19 (Or.inl (List.mem_of_getElem? (i := 0) rfl))
  have O23 := O13.wr W19 g0
  have N19 := Fr.snoc X19 N0 g0
  refine GoW.st st19 ?_
  show GoW _ _ _ _ _ _ _ (T19.setTop (mkF m 17 _ []))
  refine GoW.st (t' := T19.setTop (mkF m 18 #[.val (.ref a0_), .val (.ref a1_), .val (.int 0), .val (.int 0), .val .null, .unset] [(.ref a0_)])) (fun target kt => ?_) ?_
  · refine XS.aloadN X19.here hx rfl (hb hby d19_17) rfl rfl ?_
    exact kt
  obtain ⟨b24, T24, h24, k24, bv24, kb24, X24, e24, E24, hSi, hk24, hZ, hown, Es24, Fc24, Fv24, Vb24, lta24, ltb24, A24, -, hsf24, st24⟩ := ldcCH X19 hx hZ hown (hw _ tw144) wS e19 hSi (Nat.le_trans hk11 (Keep.of_wr W19).1) hEL (by decide) ch21.1 (vs := []) (z := (0 : Int32)) (by decide) (by decide) (by decide) (g := (mkF m 18 #[.val (.ref a0_), .val (.ref a1_), .val (.int 0), .val (.int 0), .val .null, .unset] [(.ref a0_)])) rfl (hb hby d19_18) (n := 0) (by decide) (by decide) (by decide) (by decide)
  have ch24 := ch21.trans A24
  have K25 := K22.ext E24
  have O26 := O23.ext E24
  have ne27 : a0_ ≠ b24 := (hsf24 _ (CHr.safe A24 (Nat.lt_of_lt_of_le E0.lt (Nat.le_trans E11.1 (Keep.of_wr W19).1)) (CHr.safe A21 (Nat.lt_of_lt_of_le E0.lt E11.1) (CHr.safe A11 E0.lt (hsx _ (List.mem_of_getElem? (i := 0) rfl)))))).1
  have ne28 : a0_ ≠ bv24 := (hsf24 _ (CHr.safe A24 (Nat.lt_of_lt_of_le E0.lt (Nat.le_trans E11.1 (Keep.of_wr W19).1)) (CHr.safe A21 (Nat.lt_of_lt_of_le E0.lt E11.1) (CHr.safe A11 E0.lt (hsx _ (List.mem_of_getElem? (i := 0) rfl)))))).2
  refine GoW.st st24 ?_
  show GoW _ _ _ _ _ _ _ (T24.setTop (mkF m 20 _ [(.ref b24), (.ref a0_)]))
  obtain ⟨T29, X29, e29, st29⟩ := getF X24 hx hZ hown (host := "") (Or.inl (hw _ tw27)) Via.refl e24 Fc24 (g := (mkF m 20 #[.val (.ref a0_), .val (.ref a1_), .val (.int 0), .val (.int 0), .val .null, .unset] [(.ref b24), (.ref a0_)])) rfl rfl (hb hby d19_20)
  refine GoW.st st29 ?_
  show GoW _ _ _ _ _ _ _ (T29.setTop (mkF m 23 _ [(.int 0), (.ref a0_)]))
  have c30 := ((Fc.ext E11).other W19 (Or.inr (slot_ne (Or.inr (hw _ tw28)) (Or.inr (hw _ tw26)) (by decide) (t := .byte) (t' := (.array .byte)) (by decide) (by decide)))).ext E24
  have c31 := (c18.wr W19).ext E24
  obtain ⟨T32, h32, X32, e32, W32, st32⟩ := putFN X29 hx hZ hown (hw _ tw27) Via.refl e29 c30 c31 (Or.inr ⟨(hw _ tw28), rfl, hnm⟩) (hw _ tw13) (ty := .byte) (v' := (.int 0)) (by decide) rfl (by decide) (g := (mkF m 23 #[.val (.ref a0_), .val (.ref a1_), .val (.int 0), .val (.int 0), .val .null, .unset] [(.int 0), (.ref a0_)])) rfl rfl (hb hby d19_23)
  have F33 : Fld Z h32 a0_ "java/lang/String" "coder" "B" (.int 0) := c30.same W32
  have K34 := K25.wr W32 (Or.inl (List.mem_of_getElem? (i := 0) rfl))
  have O35 := O26.wr W32 g0
  have N32 := Fr.snoc X32 N19 g0
  refine GoW.st st32 ?_
  show GoW _ _ _ _ _ _ _ (T32.setTop (mkF m 26 _ []))
  have c36 := c31.wr W32
  refine GoW.ret X32 hSi (by rw [e32]; exact (Nat.le_trans hk24 (Keep.of_wr W32).1)) (v := none) (fun _ => rfl) hlk (fun fs hr => X32.returnOut hx hret (hb hby d19_26) hr) ?_ (by decide) (by decide)
  show Q19_0 Z a0_ a1_ h0 n0 _ T32.heap _
  rw [e32]
  exact ⟨rfl, N32, K34, c36⟩
theorem ef18_0 (m : MethodId) (x0 : Addr) (x1 : Addr) : entryFrame m #[(.ref x0), (.ref x1)] 2 = mkF m 0 #[.val (.ref x0), .val (.ref x1)] [] := by first | (simp [entryFrame, mkF, argsToLocals, Value.category]; done) | rfl
def Q18_0 (Z : State) (a0_ : Addr) (a1_ : Addr) (kc : ClassId) (h0 : Heap) (n0 : Nat) (v : Option Value) (h : Heap) (L : List Loc) : Prop := v = none ∧ Fr n0 L ∧ Keep h0 h [a0_] ∧ Exa Z h a0_ "java/lang/String"
theorem rm18_0 (l : Launch) (Z : State) (a0 : Array Value) (hw : ∀ d ∈ tables_1, d.before a0 Z = true) (ws : List Jvm.Cond) (a0_ : Addr) (a1_ : Addr) (kc : ClassId) (h0 : Heap) (n0 : Nat) (Z0 : n0 ≤ h0.size) (O0 : Old Z n0 h0) (g0 : n0 ≤ a0_) (E0 : Exa Z h0 a0_ "java/lang/String") (Fv : Fld Z h0 a0_ "java/lang/String" "value" "[B" .null) (Fc : Fld Z h0 a0_ "java/lang/String" "coder" "B" (.int 0)) (Vc : Arv Z h0 a1_ kc .char (0 : Int32) [] (.int 0)) :
    MetP EL0 [a0_] l Z ws (⟨"java/lang/String", "<init>", "([C)V"⟩ : MethodName) jdk_42_method_3_code 2 none (Rm 2 4 8 29) #[(.ref a0_), (.ref a1_)] h0 (Q18_0 Z a0_ a1_ kc h0 n0) := by
  refine MetP.enter (L0 := #[.val (.ref a0_), .val (.ref a1_)]) (plainFor_of_name pn24) (fun m => ef18_0 m a0_ a1_) ?_
  intro p e s m below meth c s₁ hx hby hml hown hnm hret hlk hZ X0 e0 hH hsx
  have N0 := Fr.nil n0
  have K0 : Keep h0 h0 [a0_] := Keep.refl h0 _
  have hSi : s.Since s.vm 0 := (State.WarmedH.refl s).since 0
  have wS : ∀ a ∈ Bundle.stringAtoms, a.before a0 Z = true := own_wS hw
  have ch0 := CHr.refl hH
  have hEL : EW Z a0 EL0 := own_EL hw
  obtain ⟨cl10, Ar10, -, S10, M10, -, -⟩ := id Vc
  refine GoW.st (t' := s₁.setTop (mkF m 6 #[.val (.ref a0_), .val (.ref a1_)] [.null, (.int 0), (.int 0), (.ref a1_), (.ref a0_)])) (fun target kt => ?_) ?_
  · refine XS.aloadN X0.here hx rfl (hb hby d18_0) rfl rfl ?_
    refine XS.aloadN X0.here hx rfl (hb hby d18_1) rfl rfl ?_
    refine XS.iconst X0.here hx rfl (hb hby d18_2) ?_
    refine XS.aloadN X0.here hx rfl (hb hby d18_3) rfl rfl ?_
    refine X0.arraylength hx (by rw [e0]; exact Ar10.1) (State.isArrayOf_alike hZ.alike Ar10.2.1) (g := (mkF m 4 #[.val (.ref a0_), .val (.ref a1_)] [(.ref a1_), (.int 0), (.ref a1_), (.ref a0_)])) rfl rfl (hb hby d18_4) _ ?_
    rw [len_of S10 M10]
    refine XS.aconstNull X0.here hx rfl (hb hby d18_5) ?_
    exact kt
  obtain ⟨_, _, ⟨T11, L11, k11, n11⟩, -, X11, hSn11, hgr11, ⟨Lc11, hQ11, l11, y11, z11⟩, st11⟩ := X0.specialBackS hx (y := (⟨"java/lang/String", "<init>", "([CIILjava/lang/Void;)V"⟩ : MethodName)) rfl hown (mvT hZ (hw _ tw126)) (mvT hZ (hw _ tw127)) (mvT hZ (hw _ tw128)) (by decide) (own_backOfSP (s := s) (xs := [a0_]) (W := 0) (rm19_0 l Z a0 hw [] a0_ a1_ h0 n0 (Nat.le_trans Z0 K0.1) O0  g0 E0 Fv Fc) hZ (hw _ tw128) (hw _ tw5) (by decide) (by decide) hEL ch0.1 (allS ⟨E0.lt, (hsx _ (List.mem_of_getElem? (i := 0) rfl))⟩ all0)) (g := (mkF m 6 #[.val (.ref a0_), .val (.ref a1_)] [.null, (.int 0), (.int 0), (.ref a1_), (.ref a0_)])) rfl (by rw [hml]; rfl) (Steps.refl _) (a := a0_) (argsL := [(.ref a1_), (.int 0), (.int 0), .null]) (rest := []) (lenOf pd6 rfl) rfl (by show 2 * 0 + _ ≤ _; exact Nat.le_of_eq rfl) (hb hby d18_6) (fun _ _ => ⟨rfl, e0, (by decide : 0 + 4 ≤ _), (by decide : 0 + 8 ≤ _)⟩)
  dsimp only [Pt.U, Pt.locs, Pt.cells, Pt.slots] at X11 l11 y11 z11 st11 hQ11 hSn11 hgr11
  subst l11 y11 z11
  have hSi := foldS hSi (by rw [e0]; exact (Nat.zero_le _)) hSn11 hgr11
  have hown : T11.vm.findClass "java/lang/String" = some m.cls := by rw [hSn11.1.alike.findClass]; exact hown
  have hZ : Z.Warmed39 T11.vm := State.Warmed39.trans (t := (s.setVm s.vm)) hZ hSn11.1
  have X11 : Stand p l e (Rm 2 4 8 29) (s.setVm T11.vm) m #[(.ref a0_), (.ref a1_)] below meth c T11 _ _ _ := X11
  obtain ⟨rfl, Nq11, Kq11, q12⟩ := hQ11
  have N11 := Fr.app N0 Nq11
  have K13 := K0.trans Kq11 (allS (Or.inl (List.mem_of_getElem? (i := 0) rfl)) all0)
  have O14 := O0.keep Kq11 (allS g0 all0)
  refine GoW.by st11 ?_
  show GoW _ _ _ _ _ _ _ (T11.setTop (mkF m 9 _ []))
  refine GoW.ret X11 hSi (Nat.le_refl _) (v := none) (fun _ => rfl) hlk (fun fs hr => X11.returnOut hx hret (hb hby d18_9) hr) ?_ (by decide) (by decide)
  show Q18_0 Z a0_ a1_ kc h0 n0 _ T11.heap _
  exact ⟨rfl, N11, K13, q12⟩
theorem d17_0 : decode method_4_code 0 = .ok (.iload_n 1, 1) := by decide +kernel
theorem d17_1 : decode method_4_code 1 = .ok (.sipush 255, 3) := by decide +kernel
theorem d17_4 : decode method_4_code 4 = .ok (.iand, 1) := by decide +kernel
theorem d17_5 : decode method_4_code 5 = .ok (.i2c, 1) := by decide +kernel
theorem d17_6 : decode method_4_code 6 = .ok (.istore 4, 2) := by decide +kernel
theorem d17_8 : decode method_4_code 8 = .ok (.iload_n 2, 1) := by decide +kernel
theorem d17_9 : decode method_4_code 9 = .ok (.sipush 255, 3) := by decide +kernel
theorem d17_12 : decode method_4_code 12 = .ok (.iand, 1) := by decide +kernel
theorem d17_13 : decode method_4_code 13 = .ok (.i2c, 1) := by decide +kernel
theorem d17_14 : decode method_4_code 14 = .ok (.istore 5, 2) := by decide +kernel
theorem d17_16 : decode method_4_code 16 = .ok (.iload_n 3, 1) := by decide +kernel
theorem d17_17 : decode method_4_code 17 = .ok (.sipush 255, 3) := by decide +kernel
theorem d17_20 : decode method_4_code 20 = .ok (.iand, 1) := by decide +kernel
theorem d17_21 : decode method_4_code 21 = .ok (.i2c, 1) := by decide +kernel
theorem d17_22 : decode method_4_code 22 = .ok (.istore 6, 2) := by decide +kernel
theorem d17_24 : decode method_4_code 24 = .ok (.iload_n 0, 1) := by decide +kernel
theorem d17_25 : decode method_4_code 25 = .ok (.ifCond .ne 14, 3) := by decide +kernel
theorem d17_28 : decode method_4_code 28 = .ok (.new 23, 3) := by decide +kernel
theorem tw121 : (Jvm.Cond.classLink "com/example/graphweave/graphweave/jsonld/ActiveContextInitialPinLaw" (23 : Nat) "java/lang/String") ∈ tables_1 := List.mem_of_getElem? (i := 121) rfl
theorem d17_31 : decode method_4_code 31 = .ok (.dup, 1) := by decide +kernel
theorem d17_32 : decode method_4_code 32 = .ok (.iconst 0, 1) := by decide +kernel
theorem d17_33 : decode method_4_code 33 = .ok (.newarray .char, 2) := by decide +kernel
theorem tw122 : (Jvm.Cond.arrayClass Jvm.ClassFile.FieldType.char) ∈ tables_1 := List.mem_of_getElem? (i := 122) rfl
theorem d17_35 : decode method_4_code 35 = .ok (.invokespecial 77, 3) := by decide +kernel
theorem tw123 : (Jvm.Cond.methodLink "com/example/graphweave/graphweave/jsonld/ActiveContextInitialPinLaw" (77 : Nat) ({ cls := "java/lang/String", name := "<init>", desc := "([C)V" } : Jvm.MethodName)) ∈ tables_1 := List.mem_of_getElem? (i := 123) rfl
theorem tw125 : (Jvm.Cond.code ({ cls := "java/lang/String", name := "<init>", desc := "([C)V" } : Jvm.MethodName) jdk_42_method_3_code (2 : Nat) (Option.none : Option Jvm.ClassFile.FieldType)) ∈ tables_1 := List.mem_of_getElem? (i := 125) rfl
theorem pd7 : parseMethodDescriptor "([C)V" = some ⟨[(.array .char)], none⟩ := by decide +kernel
theorem tw124 : (Jvm.Cond.instanceMethod ({ cls := "java/lang/String", name := "<init>", desc := "([C)V" } : Jvm.MethodName)) ∈ tables_1 := List.mem_of_getElem? (i := 124) rfl
theorem d17_38 : decode method_4_code 38 = .ok (.areturn, 1) := by decide +kernel
theorem d17_39 : decode method_4_code 39 = .ok (.iload_n 0, 1) := by decide +kernel
theorem d17_40 : decode method_4_code 40 = .ok (.iconst 1, 1) := by decide +kernel
theorem d17_41 : decode method_4_code 41 = .ok (.if_icmp .ne 9, 3) := by decide +kernel
theorem d17_44 : decode method_4_code 44 = .ok (.iload 4, 2) := by decide +kernel
theorem d17_46 : decode method_4_code 46 = .ok (.invokestatic 22, 3) := by decide +kernel
theorem tw3 : (Jvm.Cond.methodLink "com/example/graphweave/graphweave/jsonld/ActiveContextInitialPinLaw" (22 : Nat) ({ cls := "java/lang/String", name := "valueOf", desc := "(C)Ljava/lang/String;" } : Jvm.MethodName)) ∈ tables_1 := List.mem_of_getElem? (i := 3) rfl
theorem tw6 : (Jvm.Cond.code ({ cls := "java/lang/String", name := "valueOf", desc := "(C)Ljava/lang/String;" } : Jvm.MethodName) jdk_42_method_139_code (1 : Nat) (Option.some (Jvm.ClassFile.FieldType.object "java/lang/String"))) ∈ tables_1 := List.mem_of_getElem? (i := 6) rfl
theorem pd8 : parseMethodDescriptor "(C)Ljava/lang/String;" = some ⟨[.char], some (.object "java/lang/String")⟩ := by decide +kernel
theorem tw4 : (Jvm.Cond.static ({ cls := "java/lang/String", name := "valueOf", desc := "(C)Ljava/lang/String;" } : Jvm.MethodName)) ∈ tables_1 := List.mem_of_getElem? (i := 4) rfl
theorem d17_49 : decode method_4_code 49 = .ok (.areturn, 1) := by decide +kernel
theorem d17_50 : decode method_4_code 50 = .ok (.iload_n 0, 1) := by decide +kernel
theorem d17_51 : decode method_4_code 51 = .ok (.iconst 2, 1) := by decide +kernel
theorem d17_52 : decode method_4_code 52 = .ok (.if_icmp .ne 24, 3) := by decide +kernel
theorem d17_55 : decode method_4_code 55 = .ok (.new 23, 3) := by decide +kernel
theorem d17_58 : decode method_4_code 58 = .ok (.dup, 1) := by decide +kernel
theorem d17_59 : decode method_4_code 59 = .ok (.iconst 2, 1) := by decide +kernel
theorem d17_60 : decode method_4_code 60 = .ok (.newarray .char, 2) := by decide +kernel
theorem d17_62 : decode method_4_code 62 = .ok (.dup, 1) := by decide +kernel
theorem d17_63 : decode method_4_code 63 = .ok (.iconst 0, 1) := by decide +kernel
theorem d17_64 : decode method_4_code 64 = .ok (.iload 4, 2) := by decide +kernel
theorem d17_66 : decode method_4_code 66 = .ok (.castore, 1) := by decide +kernel
theorem d17_67 : decode method_4_code 67 = .ok (.dup, 1) := by decide +kernel
theorem d17_68 : decode method_4_code 68 = .ok (.iconst 1, 1) := by decide +kernel
theorem d17_69 : decode method_4_code 69 = .ok (.iload 5, 2) := by decide +kernel
theorem d17_71 : decode method_4_code 71 = .ok (.castore, 1) := by decide +kernel
theorem d17_72 : decode method_4_code 72 = .ok (.invokespecial 77, 3) := by decide +kernel
theorem d17_75 : decode method_4_code 75 = .ok (.areturn, 1) := by decide +kernel
theorem d17_76 : decode method_4_code 76 = .ok (.new 23, 3) := by decide +kernel
theorem d17_79 : decode method_4_code 79 = .ok (.dup, 1) := by decide +kernel
theorem d17_80 : decode method_4_code 80 = .ok (.iconst 3, 1) := by decide +kernel
theorem d17_81 : decode method_4_code 81 = .ok (.newarray .char, 2) := by decide +kernel
theorem d17_83 : decode method_4_code 83 = .ok (.dup, 1) := by decide +kernel
theorem d17_84 : decode method_4_code 84 = .ok (.iconst 0, 1) := by decide +kernel
theorem d17_85 : decode method_4_code 85 = .ok (.iload 4, 2) := by decide +kernel
theorem d17_87 : decode method_4_code 87 = .ok (.castore, 1) := by decide +kernel
theorem d17_88 : decode method_4_code 88 = .ok (.dup, 1) := by decide +kernel
theorem d17_89 : decode method_4_code 89 = .ok (.iconst 1, 1) := by decide +kernel
theorem d17_90 : decode method_4_code 90 = .ok (.iload 5, 2) := by decide +kernel
theorem d17_92 : decode method_4_code 92 = .ok (.castore, 1) := by decide +kernel
theorem d17_93 : decode method_4_code 93 = .ok (.dup, 1) := by decide +kernel
theorem d17_94 : decode method_4_code 94 = .ok (.iconst 2, 1) := by decide +kernel
theorem d17_95 : decode method_4_code 95 = .ok (.iload 6, 2) := by decide +kernel
theorem d17_97 : decode method_4_code 97 = .ok (.castore, 1) := by decide +kernel
theorem d17_98 : decode method_4_code 98 = .ok (.invokespecial 77, 3) := by decide +kernel
theorem d17_101 : decode method_4_code 101 = .ok (.areturn, 1) := by decide +kernel
theorem ef17 (m : MethodId) (x0 : Int32) (x1 : Int32) (x2 : Int32) (x3 : Int32) : entryFrame m #[(.int x0), (.int x1), (.int x2), (.int x3)] 7 = mkF m 0 #[.val (.int x0), .val (.int x1), .val (.int x2), .val (.int x3), .unset, .unset, .unset] [] := by first | (simp [entryFrame, mkF, argsToLocals, Value.category]; done) | rfl
def Q17 (Z : State) (p0 : Int32) (p1 : Int32) (p2 : Int32) (p3 : Int32) (wcs : Int32) (h0 : Heap) (n0 : Nat) (v : Option Value) (h : Heap) (L : List Loc) : Prop := ∃ (b : Addr), v = some (.ref b) ∧ Fr n0 L ∧ Keep h0 h [] ∧ h0.size ≤ b ∧ Exa Z h b "java/lang/String"
theorem pn185 : plainName "com/example/graphweave/graphweave/jsonld/ActiveContextInitialPinLaw" = true := by first | (simp [plainName, overriddenIn]; done) | decide +kernel
theorem rm17 (l : Launch) (Z : State) (a0 : Array Value) (hw : ∀ d ∈ tables_1, d.before a0 Z = true) (ws : List Jvm.Cond) (p0 : Int32) (p1 : Int32) (p2 : Int32) (p3 : Int32) (wcs : Int32) (h0 : Heap) (n0 : Nat) (Z0 : n0 ≤ h0.size) (O0 : Old Z n0 h0) (S_CS : Sta Z Z.heap "java/lang/String" "COMPACT_STRINGS" "Z" (.int wcs)) (hcs : ¬ (wcs = (0 : Int32))) :
    MetP EL0 [] l Z ws (⟨"com/example/graphweave/graphweave/jsonld/ActiveContextInitialPinLaw", "str", "(IIII)Ljava/lang/String;"⟩ : MethodName) method_4_code 7 (some (.object "java/lang/String")) (Rm 4 6 12 66) #[(.int p0), (.int p1), (.int p2), (.int p3)] h0 (Q17 Z p0 p1 p2 p3 wcs h0 n0) := by
  refine MetP.enter (L0 := #[.val (.int p0), .val (.int p1), .val (.int p2), .val (.int p3), .unset, .unset, .unset]) (plainFor_of_name pn185) (fun m => ef17 m p0 p1 p2 p3) ?_
  intro p e s m below meth c s₁ hx hby hml hown hnm hret hlk hZ X0 e0 hH hsx
  have N0 := Fr.nil n0
  have K0 : Keep h0 h0 [] := Keep.refl h0 _
  have hSi : s.Since s.vm 0 := (State.WarmedH.refl s).since 0
  have wS : ∀ a ∈ Bundle.stringAtoms, a.before a0 Z = true := own_wS hw
  have ch0 := CHr.refl hH
  have hEL : EW Z a0 EL0 := own_EL hw
  refine GoW.st (t' := s₁.setTop (mkF m 25 #[.val (.int p0), .val (.int p1), .val (.int p2), .val (.int p3), .val (.int ((p1 &&& (255 : Int32)).toUInt32.toUInt16.toUInt32.toInt32)), .val (.int ((p2 &&& (255 : Int32)).toUInt32.toUInt16.toUInt32.toInt32)), .val (.int ((p3 &&& (255 : Int32)).toUInt32.toUInt16.toUInt32.toInt32))] [(.int p0)])) (fun target kt => ?_) ?_
  · refine XS.iloadN X0.here hx rfl (hb hby d17_0) rfl ?_
    refine XS.sipush X0.here hx rfl (hb hby d17_1) ?_
    refine XS.iand X0.here hx rfl (hb hby d17_4) rfl ?_
    refine XS.i2c X0.here hx rfl (hb hby d17_5) rfl ?_
    refine XS.istore X0.here hx rfl (hb hby d17_6) rfl (l' := #[.val (.int p0), .val (.int p1), .val (.int p2), .val (.int p3), .val (.int ((p1 &&& (255 : Int32)).toUInt32.toUInt16.toUInt32.toInt32)), .unset, .unset]) rfl ?_
    refine XS.iloadN X0.here hx rfl (hb hby d17_8) rfl ?_
    refine XS.sipush X0.here hx rfl (hb hby d17_9) ?_
    refine XS.iand X0.here hx rfl (hb hby d17_12) rfl ?_
    refine XS.i2c X0.here hx rfl (hb hby d17_13) rfl ?_
    refine XS.istore X0.here hx rfl (hb hby d17_14) rfl (l' := #[.val (.int p0), .val (.int p1), .val (.int p2), .val (.int p3), .val (.int ((p1 &&& (255 : Int32)).toUInt32.toUInt16.toUInt32.toInt32)), .val (.int ((p2 &&& (255 : Int32)).toUInt32.toUInt16.toUInt32.toInt32)), .unset]) rfl ?_
    refine XS.iloadN X0.here hx rfl (hb hby d17_16) rfl ?_
    refine XS.sipush X0.here hx rfl (hb hby d17_17) ?_
    refine XS.iand X0.here hx rfl (hb hby d17_20) rfl ?_
    refine XS.i2c X0.here hx rfl (hb hby d17_21) rfl ?_
    refine XS.istore X0.here hx rfl (hb hby d17_22) rfl (l' := #[.val (.int p0), .val (.int p1), .val (.int p2), .val (.int p3), .val (.int ((p1 &&& (255 : Int32)).toUInt32.toUInt16.toUInt32.toInt32)), .val (.int ((p2 &&& (255 : Int32)).toUInt32.toUInt16.toUInt32.toInt32)), .val (.int ((p3 &&& (255 : Int32)).toUInt32.toUInt16.toUInt32.toInt32))]) rfl ?_
    refine XS.iloadN X0.here hx rfl (hb hby d17_24) rfl ?_
    exact kt
  rcases Classical.em (p0 = (0 : Int32)) with hc10 | hc10
  · refine GoW.st (t' := s₁.setTop (mkF m 28 #[.val (.int p0), .val (.int p1), .val (.int p2), .val (.int p3), .val (.int ((p1 &&& (255 : Int32)).toUInt32.toUInt16.toUInt32.toInt32)), .val (.int ((p2 &&& (255 : Int32)).toUInt32.toUInt16.toUInt32.toInt32)), .val (.int ((p3 &&& (255 : Int32)).toUInt32.toUInt16.toUInt32.toInt32))] [])) (fun target kt => ?_) ?_
    · refine XS.ifNo X0.here hx rfl (hb hby d17_25) rfl ((if0 _ _).trans (teq hc10).2) ?_
      exact kt
    obtain ⟨T11, h11, X11, e11, E11, A11, D11, -, st11⟩ := newO X0 hx hZ hown (hw _ tw121) (hw _ tw13) (hw _ tw5) e0 (g := (mkF m 28 #[.val (.int p0), .val (.int p1), .val (.int p2), .val (.int p3), .val (.int ((p1 &&& (255 : Int32)).toUInt32.toUInt16.toUInt32.toInt32)), .val (.int ((p2 &&& (255 : Int32)).toUInt32.toUInt16.toUInt32.toInt32)), .val (.int ((p3 &&& (255 : Int32)).toUInt32.toUInt16.toUInt32.toInt32))] [])) rfl (hb hby d17_28) (by decide) (by decide)
    obtain ⟨b11, g11⟩ : ∃ z, z = h0.size := ⟨_, rfl⟩
    rw [← g11] at A11 D11 st11
    have lb12 : h0.size ≤ b11 := Nat.le_of_eq g11.symm
    have sz13 : h0.size ≤ b11 := Nat.le_trans K0.1 lb12
    have g14 : n0 ≤ b11 := Nat.le_trans Z0 sz13
    have A15 := CHr.ext E11 ch0.1
    have ch15 := ch0.trans A15
    have K16 := K0.ext E11
    have O17 := O0.ext E11
    have F18 : Fld Z h11 b11 "java/lang/String" "value" "[B" .null := D11 (Or.inr (hw _ tw26)) (ty := (.array .byte)) (by decide)
    have F19 : Fld Z h11 b11 "java/lang/String" "coder" "B" (.int 0) := D11 (Or.inr (hw _ tw28)) (ty := .byte) (by decide)
    have F20 : Fld Z h11 b11 "java/lang/String" "hash" "I" (.int 0) := D11 (Or.inl (hw _ tw96)) (ty := .int) (by decide)
    have F21 : Fld Z h11 b11 "java/lang/String" "hashIsZero" "Z" (.int 0) := D11 (Or.inl (hw _ tw98)) (ty := .boolean) (by decide)
    refine GoW.st st11 ?_
    show GoW _ _ _ _ _ _ _ (T11.setTop (mkF m 31 _ [(.ref b11)]))
    refine GoW.st (t' := T11.setTop (mkF m 33 #[.val (.int p0), .val (.int p1), .val (.int p2), .val (.int p3), .val (.int ((p1 &&& (255 : Int32)).toUInt32.toUInt16.toUInt32.toInt32)), .val (.int ((p2 &&& (255 : Int32)).toUInt32.toUInt16.toUInt32.toInt32)), .val (.int ((p3 &&& (255 : Int32)).toUInt32.toUInt16.toUInt32.toInt32))] [(.int 0), (.ref b11), (.ref b11)])) (fun target kt => ?_) ?_
    · refine XS.dup X11.here hx rfl (hb hby d17_31) rfl rfl ?_
      refine XS.iconst X11.here hx rfl (hb hby d17_32) ?_
      exact kt
    obtain ⟨T22, h22, k22, X22, e22, E22, A22, B22, st22⟩ := newPE (aty := .char) X11 hx hZ (hw _ tw122) e11 (g := (mkF m 33 #[.val (.int p0), .val (.int p1), .val (.int p2), .val (.int p3), .val (.int ((p1 &&& (255 : Int32)).toUInt32.toUInt16.toUInt32.toInt32)), .val (.int ((p2 &&& (255 : Int32)).toUInt32.toUInt16.toUInt32.toInt32)), .val (.int ((p3 &&& (255 : Int32)).toUInt32.toUInt16.toUInt32.toInt32))] [(.int 0), (.ref b11), (.ref b11)])) rfl (hb hby d17_33) rfl (by decide) (cap := 0) (by decide) (by decide) (by decide) (by decide) (ad := "[C") (by decide)
    obtain ⟨b22, g22⟩ : ∃ z, z = h11.size := ⟨_, rfl⟩
    rw [← g22] at A22 B22 st22
    have lb23 : h11.size ≤ b22 := Nat.le_of_eq g22.symm
    have sz24 : h0.size ≤ b22 := Nat.le_trans K16.1 lb23
    have g25 : n0 ≤ b22 := Nat.le_trans Z0 sz24
    have A26 := CHr.ext E22 ch15.1
    have ch26 := ch15.trans A26
    have K27 := K16.ext E22
    have O28 := O17.ext E22
    have V29 : Arv Z h22 b22 k22 .char (0 : Int32) [] (.int 0) := (Arv.new A22 (by decide)).pad (pad_rep [] (.int 0) 0)
    refine GoW.st st22 ?_
    show GoW _ _ _ _ _ _ _ (T22.setTop (mkF m 35 _ [(.ref b22), (.ref b11), (.ref b11)]))
    have c30 := A11.ext E22
    have c31 := F18.ext E22
    have c32 := F19.ext E22
    obtain ⟨_, _, ⟨T33, L33, k33, n33⟩, -, X33, hSn33, hgr33, ⟨Lc33, hQ33, l33, y33, z33⟩, st33⟩ := X22.specialBackS hx (y := (⟨"java/lang/String", "<init>", "([C)V"⟩ : MethodName)) rfl hown (mvT hZ (hw _ tw123)) (mvT hZ (hw _ tw124)) (mvT hZ (hw _ tw125)) (by decide) (own_backOfSP (s := s) (xs := [b11]) (W := 1) (rm18_0 l Z a0 hw [] b11 b22 k22 h22 n0 (Nat.le_trans Z0 K27.1) O28  g14 c30 c31 c32 V29) hZ (hw _ tw125) (hw _ tw5) (by decide) (by decide) hEL ch26.1 (allS ⟨(Nat.lt_of_lt_of_le A11.lt E22.1), (CHr.safe A26 A11.lt (Safe.ext E11 ch0.1 (Safe.new lb12)))⟩ all0)) (g := (mkF m 35 #[.val (.int p0), .val (.int p1), .val (.int p2), .val (.int p3), .val (.int ((p1 &&& (255 : Int32)).toUInt32.toUInt16.toUInt32.toInt32)), .val (.int ((p2 &&& (255 : Int32)).toUInt32.toUInt16.toUInt32.toInt32)), .val (.int ((p3 &&& (255 : Int32)).toUInt32.toUInt16.toUInt32.toInt32))] [(.ref b22), (.ref b11), (.ref b11)])) rfl (by rw [hml]; rfl) (Steps.refl _) (a := b11) (argsL := [(.ref b22)]) (rest := [(.ref b11)]) (lenOf pd7 rfl) rfl (by show 2 * 0 + _ ≤ _; exact Nat.le_of_eq rfl) (hb hby d17_35) (fun _ _ => ⟨rfl, e22, (by decide : 2 + 4 ≤ _), (by decide : 4 + 8 ≤ _)⟩)
    dsimp only [Pt.U, Pt.locs, Pt.cells, Pt.slots] at X33 l33 y33 z33 st33 hQ33 hSn33 hgr33
    subst l33 y33 z33
    have hSi := foldS hSi (by rw [e22]; exact (Nat.le_trans (Nat.zero_le _) (Nat.le_trans E11.1 E22.1))) hSn33 hgr33
    have hown : T33.vm.findClass "com/example/graphweave/graphweave/jsonld/ActiveContextInitialPinLaw" = some m.cls := by rw [hSn33.1.alike.findClass]; exact hown
    have hZ : Z.Warmed39 T33.vm := State.Warmed39.trans (t := (s.setVm s.vm)) hZ hSn33.1
    have X33 : Stand p l e (Rm 4 6 12 66) (s.setVm T33.vm) m #[(.int p0), (.int p1), (.int p2), (.int p3)] below meth c T33 _ _ _ := X33
    obtain ⟨rfl, Nq33, Kq33, q34⟩ := hQ33
    have N33 := Fr.app N0 Nq33
    have K35 := K27.trans Kq33 (allS (Or.inr sz13) all0)
    have O36 := O28.keep Kq33 (allS g14 all0)
    refine GoW.by st33 ?_
    show GoW _ _ _ _ _ _ _ (T33.setTop (mkF m 38 _ [(.ref b11)]))
    refine GoW.ret X33 hSi (Nat.le_refl _) (v := some (.ref b11)) (fun h => by rw [hret] at h; cases h) hlk (fun fs hr => retR X33 hx hret rfl rfl (hb hby d17_38) hr) ?_ (by decide) (by decide)
    show Q17 Z p0 p1 p2 p3 wcs h0 n0 _ T33.heap _
    exact ⟨b11, rfl, N33, K35, sz13, q34⟩
  · refine GoW.st (t' := s₁.setTop (mkF m 41 #[.val (.int p0), .val (.int p1), .val (.int p2), .val (.int p3), .val (.int ((p1 &&& (255 : Int32)).toUInt32.toUInt16.toUInt32.toInt32)), .val (.int ((p2 &&& (255 : Int32)).toUInt32.toUInt16.toUInt32.toInt32)), .val (.int ((p3 &&& (255 : Int32)).toUInt32.toUInt16.toUInt32.toInt32))] [(.int 1), (.int p0)])) (fun target kt => ?_) ?_
    · refine XS.ifYes X0.here hx rfl (pc0 := 25) (pc' := 39) rfl (hb hby d17_25) rfl ((if0 _ _).trans (feq hc10).2) (by decide) (by decide) ?_
      refine XS.iloadN X0.here hx rfl (hb hby d17_39) rfl ?_
      refine XS.iconst X0.here hx rfl (hb hby d17_40) ?_
      exact kt
    rcases Classical.em (p0 = (1 : Int32)) with hc37 | hc37
    · refine GoW.st (t' := s₁.setTop (mkF m 46 #[.val (.int p0), .val (.int p1), .val (.int p2), .val (.int p3), .val (.int ((p1 &&& (255 : Int32)).toUInt32.toUInt16.toUInt32.toInt32)), .val (.int ((p2 &&& (255 : Int32)).toUInt32.toUInt16.toUInt32.toInt32)), .val (.int ((p3 &&& (255 : Int32)).toUInt32.toUInt16.toUInt32.toInt32))] [(.int ((p1 &&& (255 : Int32)).toUInt32.toUInt16.toUInt32.toInt32))])) (fun target kt => ?_) ?_
      · refine XS.icmpNo X0.here hx rfl (hb hby d17_41) rfl (teq hc37).2 ?_
        refine XS.iload X0.here hx rfl (hb hby d17_44) rfl ?_
        exact kt
      obtain ⟨_, _, ⟨T38, L38, k38, n38⟩, -, X38, ⟨Lc38, hQ38, l38, y38, z38⟩, st38⟩ := Jvm.LawKit.callS X0 hx (y := (⟨"java/lang/String", "valueOf", "(C)Ljava/lang/String;"⟩ : MethodName)) hown (mvT hZ (hw _ tw3)) (mvT hZ (hw _ tw4)) (mvT hZ (hw _ tw5)) (mvT hZ (hw _ tw6)) (by decide) (backOf (W := 0) (rm1 l Z a0 hw [] ((p1 &&& (255 : Int32)).toUInt32.toUInt16.toUInt32.toInt32) wcs h0 n0 (Nat.le_trans Z0 K0.1) O0 S_CS hcs (own_c255 p1)) hZ (hw _ tw6) (hw _ tw5) (by decide) (by decide)) (g := (mkF m 46 #[.val (.int p0), .val (.int p1), .val (.int p2), .val (.int p3), .val (.int ((p1 &&& (255 : Int32)).toUInt32.toUInt16.toUInt32.toInt32)), .val (.int ((p2 &&& (255 : Int32)).toUInt32.toUInt16.toUInt32.toInt32)), .val (.int ((p3 &&& (255 : Int32)).toUInt32.toUInt16.toUInt32.toInt32))] [(.int ((p1 &&& (255 : Int32)).toUInt32.toUInt16.toUInt32.toInt32))])) rfl (by rw [hml]; rfl) (argsL := [(.int ((p1 &&& (255 : Int32)).toUInt32.toUInt16.toUInt32.toInt32))]) (rest := []) (lenOf pd8 rfl) rfl (by show 2 * 0 + _ ≤ _; exact Nat.le_of_eq rfl) (hb hby d17_46) (fun _ _ => ⟨rfl, e0, (by decide : 0 + 2 ≤ _), (by decide : 0 + 5 ≤ _)⟩)
      dsimp only [Pt.U, Pt.locs, Pt.cells, Pt.slots] at X38 l38 y38 z38 st38 hQ38
      subst l38 y38 z38
      obtain ⟨b39, b40, k41, i42, rfl, Nq38, Kq38, q43, q44, q45, q46, q47, q48, q49, q50⟩ := hQ38
      have N38 := Fr.app N0 Nq38
      have sz51 : h0.size ≤ b39 := Nat.le_trans K0.1 q43
      have g52 : n0 ≤ b39 := Nat.le_trans Z0 sz51
      have sz53 : h0.size ≤ b40 := Nat.le_trans K0.1 q44
      have g54 : n0 ≤ b40 := Nat.le_trans Z0 sz53
      have K55 := K0.trans Kq38 all0
      have O56 := O0.keep Kq38 all0
      refine GoW.st st38 ?_
      show GoW _ _ _ _ _ _ _ (T38.setTop (mkF m 49 _ [(.ref b39)]))
      refine GoW.ret X38 hSi (Nat.le_trans (Nat.zero_le _) Kq38.1) (v := some (.ref b39)) (fun h => by rw [hret] at h; cases h) hlk (fun fs hr => retR X38 hx hret rfl rfl (hb hby d17_49) hr) ?_ (by decide) (by decide)
      show Q17 Z p0 p1 p2 p3 wcs h0 n0 _ T38.heap _
      exact ⟨b39, rfl, N38, K55, sz51, q45⟩
    · refine GoW.st (t' := s₁.setTop (mkF m 52 #[.val (.int p0), .val (.int p1), .val (.int p2), .val (.int p3), .val (.int ((p1 &&& (255 : Int32)).toUInt32.toUInt16.toUInt32.toInt32)), .val (.int ((p2 &&& (255 : Int32)).toUInt32.toUInt16.toUInt32.toInt32)), .val (.int ((p3 &&& (255 : Int32)).toUInt32.toUInt16.toUInt32.toInt32))] [(.int 2), (.int p0)])) (fun target kt => ?_) ?_
      · refine XS.icmpYes X0.here hx rfl (pc0 := 41) (pc' := 50) rfl (hb hby d17_41) rfl (feq hc37).2 (by decide) (by decide) ?_
        refine XS.iloadN X0.here hx rfl (hb hby d17_50) rfl ?_
        refine XS.iconst X0.here hx rfl (hb hby d17_51) ?_
        exact kt
      rcases Classical.em (p0 = (2 : Int32)) with hc57 | hc57
      · refine GoW.st (t' := s₁.setTop (mkF m 55 #[.val (.int p0), .val (.int p1), .val (.int p2), .val (.int p3), .val (.int ((p1 &&& (255 : Int32)).toUInt32.toUInt16.toUInt32.toInt32)), .val (.int ((p2 &&& (255 : Int32)).toUInt32.toUInt16.toUInt32.toInt32)), .val (.int ((p3 &&& (255 : Int32)).toUInt32.toUInt16.toUInt32.toInt32))] [])) (fun target kt => ?_) ?_
        · refine XS.icmpNo X0.here hx rfl (hb hby d17_52) rfl (teq hc57).2 ?_
          exact kt
        obtain ⟨T58, h58, X58, e58, E58, A58, D58, -, st58⟩ := newO X0 hx hZ hown (hw _ tw121) (hw _ tw13) (hw _ tw5) e0 (g := (mkF m 55 #[.val (.int p0), .val (.int p1), .val (.int p2), .val (.int p3), .val (.int ((p1 &&& (255 : Int32)).toUInt32.toUInt16.toUInt32.toInt32)), .val (.int ((p2 &&& (255 : Int32)).toUInt32.toUInt16.toUInt32.toInt32)), .val (.int ((p3 &&& (255 : Int32)).toUInt32.toUInt16.toUInt32.toInt32))] [])) rfl (hb hby d17_55) (by decide) (by decide)
        obtain ⟨b58, g58⟩ : ∃ z, z = h0.size := ⟨_, rfl⟩
        rw [← g58] at A58 D58 st58
        have lb59 : h0.size ≤ b58 := Nat.le_of_eq g58.symm
        have sz60 : h0.size ≤ b58 := Nat.le_trans K0.1 lb59
        have g61 : n0 ≤ b58 := Nat.le_trans Z0 sz60
        have K62 := K0.ext E58
        have O63 := O0.ext E58
        have F64 : Fld Z h58 b58 "java/lang/String" "value" "[B" .null := D58 (Or.inr (hw _ tw26)) (ty := (.array .byte)) (by decide)
        have F65 : Fld Z h58 b58 "java/lang/String" "coder" "B" (.int 0) := D58 (Or.inr (hw _ tw28)) (ty := .byte) (by decide)
        have F66 : Fld Z h58 b58 "java/lang/String" "hash" "I" (.int 0) := D58 (Or.inl (hw _ tw96)) (ty := .int) (by decide)
        have F67 : Fld Z h58 b58 "java/lang/String" "hashIsZero" "Z" (.int 0) := D58 (Or.inl (hw _ tw98)) (ty := .boolean) (by decide)
        refine GoW.st st58 ?_
        show GoW _ _ _ _ _ _ _ (T58.setTop (mkF m 58 _ [(.ref b58)]))
        refine GoW.st (t' := T58.setTop (mkF m 60 #[.val (.int p0), .val (.int p1), .val (.int p2), .val (.int p3), .val (.int ((p1 &&& (255 : Int32)).toUInt32.toUInt16.toUInt32.toInt32)), .val (.int ((p2 &&& (255 : Int32)).toUInt32.toUInt16.toUInt32.toInt32)), .val (.int ((p3 &&& (255 : Int32)).toUInt32.toUInt16.toUInt32.toInt32))] [(.int 2), (.ref b58), (.ref b58)])) (fun target kt => ?_) ?_
        · refine XS.dup X58.here hx rfl (hb hby d17_58) rfl rfl ?_
          refine XS.iconst X58.here hx rfl (hb hby d17_59) ?_
          exact kt
        obtain ⟨T68, h68, k68, X68, e68, E68, A68, B68, st68⟩ := newPE (aty := .char) X58 hx hZ (hw _ tw122) e58 (g := (mkF m 60 #[.val (.int p0), .val (.int p1), .val (.int p2), .val (.int p3), .val (.int ((p1 &&& (255 : Int32)).toUInt32.toUInt16.toUInt32.toInt32)), .val (.int ((p2 &&& (255 : Int32)).toUInt32.toUInt16.toUInt32.toInt32)), .val (.int ((p3 &&& (255 : Int32)).toUInt32.toUInt16.toUInt32.toInt32))] [(.int 2), (.ref b58), (.ref b58)])) rfl (hb hby d17_60) rfl (by decide) (cap := 2) (by decide) (by decide) (by decide) (by decide) (ad := "[C") (by decide)
        obtain ⟨b68, g68⟩ : ∃ z, z = h58.size := ⟨_, rfl⟩
        rw [← g68] at A68 B68 st68
        have lb69 : h58.size ≤ b68 := Nat.le_of_eq g68.symm
        have sz70 : h0.size ≤ b68 := Nat.le_trans K62.1 lb69
        have g71 : n0 ≤ b68 := Nat.le_trans Z0 sz70
        have K72 := K62.ext E68
        have O73 := O63.ext E68
        have V74 : Arv Z h68 b68 k68 .char (2 : Int32) [(.int 0), (.int 0)] (.int 0) := (Arv.new A68 (by decide)).pad (pad_rep [] (.int 0) 2)
        refine GoW.st st68 ?_
        show GoW _ _ _ _ _ _ _ (T68.setTop (mkF m 62 _ [(.ref b68), (.ref b58), (.ref b58)]))
        refine GoW.st (t' := T68.setTop (mkF m 66 #[.val (.int p0), .val (.int p1), .val (.int p2), .val (.int p3), .val (.int ((p1 &&& (255 : Int32)).toUInt32.toUInt16.toUInt32.toInt32)), .val (.int ((p2 &&& (255 : Int32)).toUInt32.toUInt16.toUInt32.toInt32)), .val (.int ((p3 &&& (255 : Int32)).toUInt32.toUInt16.toUInt32.toInt32))] [(.int ((p1 &&& (255 : Int32)).toUInt32.toUInt16.toUInt32.toInt32)), (.int 0), (.ref b68), (.ref b68), (.ref b58), (.ref b58)])) (fun target kt => ?_) ?_
        · refine XS.dup X68.here hx rfl (hb hby d17_62) rfl rfl ?_
          refine XS.iconst X68.here hx rfl (hb hby d17_63) ?_
          refine XS.iload X68.here hx rfl (hb hby d17_64) rfl ?_
          exact kt
        obtain ⟨cl75, Ar75, q75, S75, M75, H75, G75⟩ := id V74
        have hin75 : ¬ ((0 : Int32) < 0 ∨ cl75.slots.size ≤ ((0 : Int32)).toNatClampNeg) := inb_of S75 ⟨by decide, by decide⟩
        obtain ⟨T75, h75, X75, e75, W75, st75⟩ := stC X68 hx hZ e68 Ar75 (j := (0 : Int32)) hin75 (g := (mkF m 66 #[.val (.int p0), .val (.int p1), .val (.int p2), .val (.int p3), .val (.int ((p1 &&& (255 : Int32)).toUInt32.toUInt16.toUInt32.toInt32)), .val (.int ((p2 &&& (255 : Int32)).toUInt32.toUInt16.toUInt32.toInt32)), .val (.int ((p3 &&& (255 : Int32)).toUInt32.toUInt16.toUInt32.toInt32))] [(.int ((p1 &&& (255 : Int32)).toUInt32.toUInt16.toUInt32.toInt32)), (.int 0), (.ref b68), (.ref b68), (.ref b58), (.ref b58)])) rfl rfl (hb hby d17_66)
        have V76 : Arv Z h75 b68 k68 .char (2 : Int32) [(.int (nar .char ((p1 &&& (255 : Int32)).toUInt32.toUInt16.toUInt32.toInt32))), (.int 0)] (.int 0) := Arv.set Ar75 q75 S75 M75 H75 G75 (fits_nar_char _) W75 0 rfl (Nat.le_of_ble_eq_true rfl)
        have K77 := K72.wr W75 (Or.inr sz70)
        have O78 := O73.wr W75 g71
        have N75 := Fr.snoc X75 N0 g71
        refine GoW.st st75 ?_
        show GoW _ _ _ _ _ _ _ (T75.setTop (mkF m 67 _ [(.ref b68), (.ref b58), (.ref b58)]))
        refine GoW.st (t' := T75.setTop (mkF m 71 #[.val (.int p0), .val (.int p1), .val (.int p2), .val (.int p3), .val (.int ((p1 &&& (255 : Int32)).toUInt32.toUInt16.toUInt32.toInt32)), .val (.int ((p2 &&& (255 : Int32)).toUInt32.toUInt16.toUInt32.toInt32)), .val (.int ((p3 &&& (255 : Int32)).toUInt32.toUInt16.toUInt32.toInt32))] [(.int ((p2 &&& (255 : Int32)).toUInt32.toUInt16.toUInt32.toInt32)), (.int 1), (.ref b68), (.ref b68), (.ref b58), (.ref b58)])) (fun target kt => ?_) ?_
        · refine XS.dup X75.here hx rfl (hb hby d17_67) rfl rfl ?_
          refine XS.iconst X75.here hx rfl (hb hby d17_68) ?_
          refine XS.iload X75.here hx rfl (hb hby d17_69) rfl ?_
          exact kt
        obtain ⟨cl79, Ar79, q79, S79, M79, H79, G79⟩ := id V76
        have hin79 : ¬ ((1 : Int32) < 0 ∨ cl79.slots.size ≤ ((1 : Int32)).toNatClampNeg) := inb_of S79 ⟨by decide, by decide⟩
        obtain ⟨T79, h79, X79, e79, W79, st79⟩ := stC X75 hx hZ e75 Ar79 (j := (1 : Int32)) hin79 (g := (mkF m 71 #[.val (.int p0), .val (.int p1), .val (.int p2), .val (.int p3), .val (.int ((p1 &&& (255 : Int32)).toUInt32.toUInt16.toUInt32.toInt32)), .val (.int ((p2 &&& (255 : Int32)).toUInt32.toUInt16.toUInt32.toInt32)), .val (.int ((p3 &&& (255 : Int32)).toUInt32.toUInt16.toUInt32.toInt32))] [(.int ((p2 &&& (255 : Int32)).toUInt32.toUInt16.toUInt32.toInt32)), (.int 1), (.ref b68), (.ref b68), (.ref b58), (.ref b58)])) rfl rfl (hb hby d17_71)
        have V80 : Arv Z h79 b68 k68 .char (2 : Int32) [(.int (nar .char ((p1 &&& (255 : Int32)).toUInt32.toUInt16.toUInt32.toInt32))), (.int (nar .char ((p2 &&& (255 : Int32)).toUInt32.toUInt16.toUInt32.toInt32)))] (.int 0) := Arv.set Ar79 q79 S79 M79 H79 G79 (fits_nar_char _) W79 1 rfl (Nat.le_of_ble_eq_true rfl)
        have K81 := K77.wr W79 (Or.inr sz70)
        have O82 := O78.wr W79 g71
        have N79 := Fr.snoc X79 N75 g71
        refine GoW.st st79 ?_
        show GoW _ _ _ _ _ _ _ (T79.setTop (mkF m 72 _ [(.ref b68), (.ref b58), (.ref b58)]))
        have c83 := ((A58.ext E68).wr W75).wr W79
        have o84 : b58 < b68 := Nat.lt_of_lt_of_le A58.lt lb69
        have ne85 : b58 ≠ b68 := Nat.ne_of_lt o84
        have c86 := ((F64.ext E68).other W75 (Or.inl ne85)).other W79 (Or.inl ne85)
        have c87 := ((F65.ext E68).other W75 (Or.inl ne85)).other W79 (Or.inl ne85)
        obtain ⟨_, _, ⟨T88, L88, k88, n88⟩, -, X88, ⟨Lc88, hQ88, l88, y88, z88⟩, st88⟩ := X79.specialBack hx (y := (⟨"java/lang/String", "<init>", "([C)V"⟩ : MethodName)) rfl hown (mvT hZ (hw _ tw123)) (mvT hZ (hw _ tw124)) (mvT hZ (hw _ tw125)) (by decide) (backOf (W := 1) (rm18_2 l Z a0 hw [] b58 b68 k68 (nar .char ((p1 &&& (255 : Int32)).toUInt32.toUInt16.toUInt32.toInt32)) (nar .char ((p2 &&& (255 : Int32)).toUInt32.toUInt16.toUInt32.toInt32)) wcs h79 n0 (Nat.le_trans Z0 K81.1) O82 S_CS hcs g61 c83 c86 c87 V80 (Ne.symm ne85) (own_n255 p1) (own_n255 p2)) hZ (hw _ tw125) (hw _ tw5) (by decide) (by decide)) (g := (mkF m 72 #[.val (.int p0), .val (.int p1), .val (.int p2), .val (.int p3), .val (.int ((p1 &&& (255 : Int32)).toUInt32.toUInt16.toUInt32.toInt32)), .val (.int ((p2 &&& (255 : Int32)).toUInt32.toUInt16.toUInt32.toInt32)), .val (.int ((p3 &&& (255 : Int32)).toUInt32.toUInt16.toUInt32.toInt32))] [(.ref b68), (.ref b58), (.ref b58)])) rfl (by rw [hml]; rfl) (Steps.refl _) (a := b58) (argsL := [(.ref b68)]) (rest := [(.ref b58)]) (lenOf pd7 rfl) rfl (by show 2 * 0 + _ ≤ _; exact Nat.le_of_eq rfl) (hb hby d17_72) (fun _ _ => ⟨rfl, e79, (by decide : 2 + 1 ≤ _), (by decide : 6 + 2 ≤ _)⟩)
        dsimp only [Pt.U, Pt.locs, Pt.cells, Pt.slots] at X88 l88 y88 z88 st88 hQ88
        subst l88 y88 z88
        obtain ⟨rfl, Nq88, Kq88, q89⟩ := hQ88
        have N88 := Fr.app N79 Nq88
        have K90 := K81.trans Kq88 (allS (Or.inr sz60) all0)
        have O91 := O82.keep Kq88 (allS g61 all0)
        refine GoW.by st88 ?_
        show GoW _ _ _ _ _ _ _ (T88.setTop (mkF m 75 _ [(.ref b58)]))
        refine GoW.ret X88 hSi (Nat.le_trans (Nat.zero_le _) (Nat.le_trans (Nat.le_trans (Nat.le_trans (Nat.le_trans E58.1 E68.1) (Keep.of_wr W75).1) (Keep.of_wr W79).1) Kq88.1)) (v := some (.ref b58)) (fun h => by rw [hret] at h; cases h) hlk (fun fs hr => retR X88 hx hret rfl rfl (hb hby d17_75) hr) ?_ (by decide) (by decide)
        show Q17 Z p0 p1 p2 p3 wcs h0 n0 _ T88.heap _
        exact ⟨b58, rfl, N88, K90, sz60, q89⟩
      · refine GoW.st (t' := s₁.setTop (mkF m 76 #[.val (.int p0), .val (.int p1), .val (.int p2), .val (.int p3), .val (.int ((p1 &&& (255 : Int32)).toUInt32.toUInt16.toUInt32.toInt32)), .val (.int ((p2 &&& (255 : Int32)).toUInt32.toUInt16.toUInt32.toInt32)), .val (.int ((p3 &&& (255 : Int32)).toUInt32.toUInt16.toUInt32.toInt32))] [])) (fun target kt => ?_) ?_
        · refine XS.icmpYes X0.here hx rfl (pc0 := 52) (pc' := 76) rfl (hb hby d17_52) rfl (feq hc57).2 (by decide) (by decide) ?_
          exact kt
        obtain ⟨T92, h92, X92, e92, E92, A92, D92, -, st92⟩ := newO X0 hx hZ hown (hw _ tw121) (hw _ tw13) (hw _ tw5) e0 (g := (mkF m 76 #[.val (.int p0), .val (.int p1), .val (.int p2), .val (.int p3), .val (.int ((p1 &&& (255 : Int32)).toUInt32.toUInt16.toUInt32.toInt32)), .val (.int ((p2 &&& (255 : Int32)).toUInt32.toUInt16.toUInt32.toInt32)), .val (.int ((p3 &&& (255 : Int32)).toUInt32.toUInt16.toUInt32.toInt32))] [])) rfl (hb hby d17_76) (by decide) (by decide)
        obtain ⟨b92, g92⟩ : ∃ z, z = h0.size := ⟨_, rfl⟩
        rw [← g92] at A92 D92 st92
        have lb93 : h0.size ≤ b92 := Nat.le_of_eq g92.symm
        have sz94 : h0.size ≤ b92 := Nat.le_trans K0.1 lb93
        have g95 : n0 ≤ b92 := Nat.le_trans Z0 sz94
        have K96 := K0.ext E92
        have O97 := O0.ext E92
        have F98 : Fld Z h92 b92 "java/lang/String" "value" "[B" .null := D92 (Or.inr (hw _ tw26)) (ty := (.array .byte)) (by decide)
        have F99 : Fld Z h92 b92 "java/lang/String" "coder" "B" (.int 0) := D92 (Or.inr (hw _ tw28)) (ty := .byte) (by decide)
        have F100 : Fld Z h92 b92 "java/lang/String" "hash" "I" (.int 0) := D92 (Or.inl (hw _ tw96)) (ty := .int) (by decide)
        have F101 : Fld Z h92 b92 "java/lang/String" "hashIsZero" "Z" (.int 0) := D92 (Or.inl (hw _ tw98)) (ty := .boolean) (by decide)
        refine GoW.st st92 ?_
        show GoW _ _ _ _ _ _ _ (T92.setTop (mkF m 79 _ [(.ref b92)]))
        refine GoW.st (t' := T92.setTop (mkF m 81 #[.val (.int p0), .val (.int p1), .val (.int p2), .val (.int p3), .val (.int ((p1 &&& (255 : Int32)).toUInt32.toUInt16.toUInt32.toInt32)), .val (.int ((p2 &&& (255 : Int32)).toUInt32.toUInt16.toUInt32.toInt32)), .val (.int ((p3 &&& (255 : Int32)).toUInt32.toUInt16.toUInt32.toInt32))] [(.int 3), (.ref b92), (.ref b92)])) (fun target kt => ?_) ?_
        · refine XS.dup X92.here hx rfl (hb hby d17_79) rfl rfl ?_
          refine XS.iconst X92.here hx rfl (hb hby d17_80) ?_
          exact kt
        obtain ⟨T102, h102, k102, X102, e102, E102, A102, B102, st102⟩ := newPE (aty := .char) X92 hx hZ (hw _ tw122) e92 (g := (mkF m 81 #[.val (.int p0), .val (.int p1), .val (.int p2), .val (.int p3), .val (.int ((p1 &&& (255 : Int32)).toUInt32.toUInt16.toUInt32.toInt32)), .val (.int ((p2 &&& (255 : Int32)).toUInt32.toUInt16.toUInt32.toInt32)), .val (.int ((p3 &&& (255 : Int32)).toUInt32.toUInt16.toUInt32.toInt32))] [(.int 3), (.ref b92), (.ref b92)])) rfl (hb hby d17_81) rfl (by decide) (cap := 3) (by decide) (by decide) (by decide) (by decide) (ad := "[C") (by decide)
        obtain ⟨b102, g102⟩ : ∃ z, z = h92.size := ⟨_, rfl⟩
        rw [← g102] at A102 B102 st102
        have lb103 : h92.size ≤ b102 := Nat.le_of_eq g102.symm
        have sz104 : h0.size ≤ b102 := Nat.le_trans K96.1 lb103
        have g105 : n0 ≤ b102 := Nat.le_trans Z0 sz104
        have K106 := K96.ext E102
        have O107 := O97.ext E102
        have V108 : Arv Z h102 b102 k102 .char (3 : Int32) [(.int 0), (.int 0), (.int 0)] (.int 0) := (Arv.new A102 (by decide)).pad (pad_rep [] (.int 0) 3)
        refine GoW.st st102 ?_
        show GoW _ _ _ _ _ _ _ (T102.setTop (mkF m 83 _ [(.ref b102), (.ref b92), (.ref b92)]))
        refine GoW.st (t' := T102.setTop (mkF m 87 #[.val (.int p0), .val (.int p1), .val (.int p2), .val (.int p3), .val (.int ((p1 &&& (255 : Int32)).toUInt32.toUInt16.toUInt32.toInt32)), .val (.int ((p2 &&& (255 : Int32)).toUInt32.toUInt16.toUInt32.toInt32)), .val (.int ((p3 &&& (255 : Int32)).toUInt32.toUInt16.toUInt32.toInt32))] [(.int ((p1 &&& (255 : Int32)).toUInt32.toUInt16.toUInt32.toInt32)), (.int 0), (.ref b102), (.ref b102), (.ref b92), (.ref b92)])) (fun target kt => ?_) ?_
        · refine XS.dup X102.here hx rfl (hb hby d17_83) rfl rfl ?_
          refine XS.iconst X102.here hx rfl (hb hby d17_84) ?_
          refine XS.iload X102.here hx rfl (hb hby d17_85) rfl ?_
          exact kt
        obtain ⟨cl109, Ar109, q109, S109, M109, H109, G109⟩ := id V108
        have hin109 : ¬ ((0 : Int32) < 0 ∨ cl109.slots.size ≤ ((0 : Int32)).toNatClampNeg) := inb_of S109 ⟨by decide, by decide⟩
        obtain ⟨T109, h109, X109, e109, W109, st109⟩ := stC X102 hx hZ e102 Ar109 (j := (0 : Int32)) hin109 (g := (mkF m 87 #[.val (.int p0), .val (.int p1), .val (.int p2), .val (.int p3), .val (.int ((p1 &&& (255 : Int32)).toUInt32.toUInt16.toUInt32.toInt32)), .val (.int ((p2 &&& (255 : Int32)).toUInt32.toUInt16.toUInt32.toInt32)), .val (.int ((p3 &&& (255 : Int32)).toUInt32.toUInt16.toUInt32.toInt32))] [(.int ((p1 &&& (255 : Int32)).toUInt32.toUInt16.toUInt32.toInt32)), (.int 0), (.ref b102), (.ref b102), (.ref b92), (.ref b92)])) rfl rfl (hb hby d17_87)
        have V110 : Arv Z h109 b102 k102 .char (3 : Int32) [(.int (nar .char ((p1 &&& (255 : Int32)).toUInt32.toUInt16.toUInt32.toInt32))), (.int 0), (.int 0)] (.int 0) := Arv.set Ar109 q109 S109 M109 H109 G109 (fits_nar_char _) W109 0 rfl (Nat.le_of_ble_eq_true rfl)
        have K111 := K106.wr W109 (Or.inr sz104)
        have O112 := O107.wr W109 g105
        have N109 := Fr.snoc X109 N0 g105
        refine GoW.st st109 ?_
        show GoW _ _ _ _ _ _ _ (T109.setTop (mkF m 88 _ [(.ref b102), (.ref b92), (.ref b92)]))
        refine GoW.st (t' := T109.setTop (mkF m 92 #[.val (.int p0), .val (.int p1), .val (.int p2), .val (.int p3), .val (.int ((p1 &&& (255 : Int32)).toUInt32.toUInt16.toUInt32.toInt32)), .val (.int ((p2 &&& (255 : Int32)).toUInt32.toUInt16.toUInt32.toInt32)), .val (.int ((p3 &&& (255 : Int32)).toUInt32.toUInt16.toUInt32.toInt32))] [(.int ((p2 &&& (255 : Int32)).toUInt32.toUInt16.toUInt32.toInt32)), (.int 1), (.ref b102), (.ref b102), (.ref b92), (.ref b92)])) (fun target kt => ?_) ?_
        · refine XS.dup X109.here hx rfl (hb hby d17_88) rfl rfl ?_
          refine XS.iconst X109.here hx rfl (hb hby d17_89) ?_
          refine XS.iload X109.here hx rfl (hb hby d17_90) rfl ?_
          exact kt
        obtain ⟨cl113, Ar113, q113, S113, M113, H113, G113⟩ := id V110
        have hin113 : ¬ ((1 : Int32) < 0 ∨ cl113.slots.size ≤ ((1 : Int32)).toNatClampNeg) := inb_of S113 ⟨by decide, by decide⟩
        obtain ⟨T113, h113, X113, e113, W113, st113⟩ := stC X109 hx hZ e109 Ar113 (j := (1 : Int32)) hin113 (g := (mkF m 92 #[.val (.int p0), .val (.int p1), .val (.int p2), .val (.int p3), .val (.int ((p1 &&& (255 : Int32)).toUInt32.toUInt16.toUInt32.toInt32)), .val (.int ((p2 &&& (255 : Int32)).toUInt32.toUInt16.toUInt32.toInt32)), .val (.int ((p3 &&& (255 : Int32)).toUInt32.toUInt16.toUInt32.toInt32))] [(.int ((p2 &&& (255 : Int32)).toUInt32.toUInt16.toUInt32.toInt32)), (.int 1), (.ref b102), (.ref b102), (.ref b92), (.ref b92)])) rfl rfl (hb hby d17_92)
        have V114 : Arv Z h113 b102 k102 .char (3 : Int32) [(.int (nar .char ((p1 &&& (255 : Int32)).toUInt32.toUInt16.toUInt32.toInt32))), (.int (nar .char ((p2 &&& (255 : Int32)).toUInt32.toUInt16.toUInt32.toInt32))), (.int 0)] (.int 0) := Arv.set Ar113 q113 S113 M113 H113 G113 (fits_nar_char _) W113 1 rfl (Nat.le_of_ble_eq_true rfl)
        have K115 := K111.wr W113 (Or.inr sz104)
        have O116 := O112.wr W113 g105
        have N113 := Fr.snoc X113 N109 g105
        refine GoW.st st113 ?_
        show GoW _ _ _ _ _ _ _ (T113.setTop (mkF m 93 _ [(.ref b102), (.ref b92), (.ref b92)]))
        refine GoW.st (t' := T113.setTop (mkF m 97 #[.val (.int p0), .val (.int p1), .val (.int p2), .val (.int p3), .val (.int ((p1 &&& (255 : Int32)).toUInt32.toUInt16.toUInt32.toInt32)), .val (.int ((p2 &&& (255 : Int32)).toUInt32.toUInt16.toUInt32.toInt32)), .val (.int ((p3 &&& (255 : Int32)).toUInt32.toUInt16.toUInt32.toInt32))] [(.int ((p3 &&& (255 : Int32)).toUInt32.toUInt16.toUInt32.toInt32)), (.int 2), (.ref b102), (.ref b102), (.ref b92), (.ref b92)])) (fun target kt => ?_) ?_
        · refine XS.dup X113.here hx rfl (hb hby d17_93) rfl rfl ?_
          refine XS.iconst X113.here hx rfl (hb hby d17_94) ?_
          refine XS.iload X113.here hx rfl (hb hby d17_95) rfl ?_
          exact kt
        obtain ⟨cl117, Ar117, q117, S117, M117, H117, G117⟩ := id V114
        have hin117 : ¬ ((2 : Int32) < 0 ∨ cl117.slots.size ≤ ((2 : Int32)).toNatClampNeg) := inb_of S117 ⟨by decide, by decide⟩
        obtain ⟨T117, h117, X117, e117, W117, st117⟩ := stC X113 hx hZ e113 Ar117 (j := (2 : Int32)) hin117 (g := (mkF m 97 #[.val (.int p0), .val (.int p1), .val (.int p2), .val (.int p3), .val (.int ((p1 &&& (255 : Int32)).toUInt32.toUInt16.toUInt32.toInt32)), .val (.int ((p2 &&& (255 : Int32)).toUInt32.toUInt16.toUInt32.toInt32)), .val (.int ((p3 &&& (255 : Int32)).toUInt32.toUInt16.toUInt32.toInt32))] [(.int ((p3 &&& (255 : Int32)).toUInt32.toUInt16.toUInt32.toInt32)), (.int 2), (.ref b102), (.ref b102), (.ref b92), (.ref b92)])) rfl rfl (hb hby d17_97)
        have V118 : Arv Z h117 b102 k102 .char (3 : Int32) [(.int (nar .char ((p1 &&& (255 : Int32)).toUInt32.toUInt16.toUInt32.toInt32))), (.int (nar .char ((p2 &&& (255 : Int32)).toUInt32.toUInt16.toUInt32.toInt32))), (.int (nar .char ((p3 &&& (255 : Int32)).toUInt32.toUInt16.toUInt32.toInt32)))] (.int 0) := Arv.set Ar117 q117 S117 M117 H117 G117 (fits_nar_char _) W117 2 rfl (Nat.le_of_ble_eq_true rfl)
        have K119 := K115.wr W117 (Or.inr sz104)
        have O120 := O116.wr W117 g105
        have N117 := Fr.snoc X117 N113 g105
        refine GoW.st st117 ?_
        show GoW _ _ _ _ _ _ _ (T117.setTop (mkF m 98 _ [(.ref b102), (.ref b92), (.ref b92)]))
        have c121 := (((A92.ext E102).wr W109).wr W113).wr W117
        have o122 : b92 < b102 := Nat.lt_of_lt_of_le A92.lt lb103
        have ne123 : b92 ≠ b102 := Nat.ne_of_lt o122
        have c124 := (((F98.ext E102).other W109 (Or.inl ne123)).other W113 (Or.inl ne123)).other W117 (Or.inl ne123)
        have c125 := (((F99.ext E102).other W109 (Or.inl ne123)).other W113 (Or.inl ne123)).other W117 (Or.inl ne123)
        obtain ⟨_, _, ⟨T126, L126, k126, n126⟩, -, X126, ⟨Lc126, hQ126, l126, y126, z126⟩, st126⟩ := X117.specialBack hx (y := (⟨"java/lang/String", "<init>", "([C)V"⟩ : MethodName)) rfl hown (mvT hZ (hw _ tw123)) (mvT hZ (hw _ tw124)) (mvT hZ (hw _ tw125)) (by decide) (backOf (W := 1) (rm18_3 l Z a0 hw [] b92 b102 k102 (nar .char ((p1 &&& (255 : Int32)).toUInt32.toUInt16.toUInt32.toInt32)) (nar .char ((p2 &&& (255 : Int32)).toUInt32.toUInt16.toUInt32.toInt32)) (nar .char ((p3 &&& (255 : Int32)).toUInt32.toUInt16.toUInt32.toInt32)) wcs h117 n0 (Nat.le_trans Z0 K119.1) O120 S_CS hcs g95 c121 c124 c125 V118 (Ne.symm ne123) (own_n255 p1) (own_n255 p2) (own_n255 p3)) hZ (hw _ tw125) (hw _ tw5) (by decide) (by decide)) (g := (mkF m 98 #[.val (.int p0), .val (.int p1), .val (.int p2), .val (.int p3), .val (.int ((p1 &&& (255 : Int32)).toUInt32.toUInt16.toUInt32.toInt32)), .val (.int ((p2 &&& (255 : Int32)).toUInt32.toUInt16.toUInt32.toInt32)), .val (.int ((p3 &&& (255 : Int32)).toUInt32.toUInt16.toUInt32.toInt32))] [(.ref b102), (.ref b92), (.ref b92)])) rfl (by rw [hml]; rfl) (Steps.refl _) (a := b92) (argsL := [(.ref b102)]) (rest := [(.ref b92)]) (lenOf pd7 rfl) rfl (by show 2 * 0 + _ ≤ _; exact Nat.le_of_eq rfl) (hb hby d17_98) (fun _ _ => ⟨rfl, e117, (by decide : 2 + 1 ≤ _), (by decide : 7 + 3 ≤ _)⟩)
        dsimp only [Pt.U, Pt.locs, Pt.cells, Pt.slots] at X126 l126 y126 z126 st126 hQ126
        subst l126 y126 z126
        obtain ⟨rfl, Nq126, Kq126, q127⟩ := hQ126
        have N126 := Fr.app N117 Nq126
        have K128 := K119.trans Kq126 (allS (Or.inr sz94) all0)
        have O129 := O120.keep Kq126 (allS g95 all0)
        refine GoW.by st126 ?_
        show GoW _ _ _ _ _ _ _ (T126.setTop (mkF m 101 _ [(.ref b92)]))
        refine GoW.ret X126 hSi (Nat.le_trans (Nat.zero_le _) (Nat.le_trans (Nat.le_trans (Nat.le_trans (Nat.le_trans (Nat.le_trans E92.1 E102.1) (Keep.of_wr W109).1) (Keep.of_wr W113).1) (Keep.of_wr W117).1) Kq126.1)) (v := some (.ref b92)) (fun h => by rw [hret] at h; cases h) hlk (fun fs hr => retR X126 hx hret rfl rfl (hb hby d17_101) hr) ?_ (by decide) (by decide)
        show Q17 Z p0 p1 p2 p3 wcs h0 n0 _ T126.heap _
        exact ⟨b92, rfl, N126, K128, sz94, q127⟩
theorem d23_0 : decode jdk_42_method_66_code 0 = .ok (.aload_n 0, 1) := by decide +kernel
theorem d23_1 : decode jdk_42_method_66_code 1 = .ok (.aload_n 1, 1) := by decide +kernel
theorem d23_2 : decode jdk_42_method_66_code 2 = .ok (.if_acmp .ne 5, 3) := by decide +kernel
theorem d23_5 : decode jdk_42_method_66_code 5 = .ok (.iconst 1, 1) := by decide +kernel
theorem d23_6 : decode jdk_42_method_66_code 6 = .ok (.ireturn, 1) := by decide +kernel
theorem ef23 (m : MethodId) (x0 : Addr) (x1 : Addr) : entryFrame m #[(.ref x0), (.ref x1)] 3 = mkF m 0 #[.val (.ref x0), .val (.ref x1), .unset] [] := by first | (simp [entryFrame, mkF, argsToLocals, Value.category]; done) | rfl
def Q23 (Z : State) (a0_ : Addr) (h0 : Heap) (n0 : Nat) (v : Option Value) (h : Heap) (L : List Loc) : Prop := v = some (.int 1) ∧ Fr n0 L ∧ h = h0
theorem rm23 (l : Launch) (Z : State) (a0 : Array Value) (hw : ∀ d ∈ tables_1, d.before a0 Z = true) (ws : List Jvm.Cond) (a0_ : Addr) (h0 : Heap) (n0 : Nat) (Z0 : n0 ≤ h0.size) (O0 : Old Z n0 h0) :
    Met l Z ws (⟨"java/lang/String", "equals", "(Ljava/lang/Object;)Z"⟩ : MethodName) jdk_42_method_66_code 3 (some .boolean) (Rm 0 0 0 0) #[(.ref a0_), (.ref a0_)] h0 (Q23 Z a0_ h0 n0) := by
  refine Met.enter (L0 := #[.val (.ref a0_), .val (.ref a0_), .unset]) (plainFor_of_name pn24) (fun m => ef23 m a0_ a0_) ?_
  intro p e s m below meth c s₁ hx hby hml hown hnm hret hlk hZ X0 e0
  have N0 := Fr.nil n0
  have K0 : Keep h0 h0 [] := Keep.refl h0 _
  refine Go.st (t' := s₁.setTop (mkF m 6 #[.val (.ref a0_), .val (.ref a0_), .unset] [(.int 1)])) (fun target kt => ?_) ?_
  · refine XS.aloadN X0.here hx rfl (hb hby d23_0) rfl rfl ?_
    refine XS.aloadN X0.here hx rfl (hb hby d23_1) rfl rfl ?_
    refine Jvm.RoadKit.acmp (g := (mkF m 2 #[.val (.ref a0_), .val (.ref a0_), .unset] [(.ref a0_), (.ref a0_)])) X0 hx rfl rfl rfl (pc0 := 2) (pc' := 5) (same := true) rfl (hb hby d23_2) rfl (decide_eq_true rfl) (by decide) (by decide) ?_
    refine XS.iconst X0.here hx rfl (hb hby d23_5) ?_
    exact kt
  refine Go.ret X0 (v := some (.int 1)) (fun h => by rw [hret] at h; cases h) hlk (fun fs hr => retN X0 hx (t := .boolean) hret (by simp) (hb hby d23_6) hr) ?_ (by decide) (by decide)
  show Q23 Z a0_ h0 n0 _ s₁.heap _
  rw [e0]
  exact ⟨rfl, N0, rfl⟩
theorem d8_0 : decode method_3_code 0 = .ok (.aload_n 0, 1) := by decide +kernel
theorem d8_1 : decode method_3_code 1 = .ok (.ifnonnull 13, 3) := by decide +kernel
theorem d8_4 : decode method_3_code 4 = .ok (.aload_n 1, 1) := by decide +kernel
theorem d8_5 : decode method_3_code 5 = .ok (.ifnonnull 7, 3) := by decide +kernel
theorem d8_8 : decode method_3_code 8 = .ok (.iconst 1, 1) := by decide +kernel
theorem d8_9 : decode method_3_code 9 = .ok (.goto 4, 3) := by decide +kernel
theorem d8_13 : decode method_3_code 13 = .ok (.ireturn, 1) := by decide +kernel
theorem ef8_n (m : MethodId)  : entryFrame m #[.null, .null] 2 = mkF m 0 #[.val .null, .val .null] [] := by first | (simp [entryFrame, mkF, argsToLocals, Value.category]; done) | rfl
def Q8_n (Z : State)  (h0 : Heap) (n0 : Nat) (v : Option Value) (h : Heap) (L : List Loc) : Prop := v = some (.int 1) ∧ Fr n0 L ∧ h = h0
theorem rm8_n (l : Launch) (Z : State) (a0 : Array Value) (hw : ∀ d ∈ tables_1, d.before a0 Z = true) (ws : List Jvm.Cond)  (h0 : Heap) (n0 : Nat) (Z0 : n0 ≤ h0.size) (O0 : Old Z n0 h0) :
    Met l Z ws (⟨"com/example/graphweave/graphweave/jsonld/ActiveContextInitialPinLaw", "same", "(Ljava/lang/String;Ljava/lang/String;)Z"⟩ : MethodName) method_3_code 2 (some .boolean) (Rm 0 0 0 0) #[.null, .null] h0 (Q8_n Z  h0 n0) := by
  refine Met.enter (L0 := #[.val .null, .val .null]) (plainFor_of_name pn185) (fun m => ef8_n m ) ?_
  intro p e s m below meth c s₁ hx hby hml hown hnm hret hlk hZ X0 e0
  have N0 := Fr.nil n0
  have K0 : Keep h0 h0 [] := Keep.refl h0 _
  refine Go.st (t' := s₁.setTop (mkF m 13 #[.val .null, .val .null] [(.int 1)])) (fun target kt => ?_) ?_
  · refine XS.aloadN X0.here hx rfl (hb hby d8_0) rfl rfl ?_
    refine XS.ifnonnullNo X0.here hx rfl (hb hby d8_1) rfl ?_
    refine XS.aloadN X0.here hx rfl (hb hby d8_4) rfl rfl ?_
    refine XS.ifnonnullNo X0.here hx rfl (hb hby d8_5) rfl ?_
    refine XS.iconst X0.here hx rfl (hb hby d8_8) ?_
    refine XS.goto X0.here hx rfl (pc0 := 9) (pc' := 13) rfl (hb hby d8_9) (by decide) (by decide) ?_
    exact kt
  refine Go.ret X0 (v := some (.int 1)) (fun h => by rw [hret] at h; cases h) hlk (fun fs hr => retN X0 hx (t := .boolean) hret (by simp) (hb hby d8_13) hr) ?_ (by decide) (by decide)
  show Q8_n Z  h0 n0 _ s₁.heap _
  rw [e0]
  exact ⟨rfl, N0, rfl⟩
theorem d8_14 : decode method_3_code 14 = .ok (.aload_n 0, 1) := by decide +kernel
theorem d8_15 : decode method_3_code 15 = .ok (.aload_n 1, 1) := by decide +kernel
theorem d8_16 : decode method_3_code 16 = .ok (.invokevirtual 73, 3) := by decide +kernel
theorem tw139 : (Jvm.Cond.methodLink "com/example/graphweave/graphweave/jsonld/ActiveContextInitialPinLaw" (73 : Nat) ({ cls := "java/lang/String", name := "equals", desc := "(Ljava/lang/Object;)Z" } : Jvm.MethodName)) ∈ tables_1 := List.mem_of_getElem? (i := 139) rfl
theorem tw143 : (Jvm.Cond.code ({ cls := "java/lang/String", name := "equals", desc := "(Ljava/lang/Object;)Z" } : Jvm.MethodName) jdk_42_method_66_code (3 : Nat) (Option.some Jvm.ClassFile.FieldType.boolean)) ∈ tables_1 := List.mem_of_getElem? (i := 143) rfl
theorem pd9 : parseMethodDescriptor "(Ljava/lang/Object;)Z" = some ⟨[(.object "java/lang/Object")], some .boolean⟩ := by decide +kernel
theorem tw142 : (Jvm.Cond.selects "java/lang/String" ({ cls := "java/lang/String", name := "equals", desc := "(Ljava/lang/Object;)Z" } : Jvm.MethodName) ({ cls := "java/lang/String", name := "equals", desc := "(Ljava/lang/Object;)Z" } : Jvm.MethodName)) ∈ tables_1 := List.mem_of_getElem? (i := 142) rfl
theorem tw140 : (Jvm.Cond.declares ({ cls := "java/lang/String", name := "equals", desc := "(Ljava/lang/Object;)Z" } : Jvm.MethodName)) ∈ tables_1 := List.mem_of_getElem? (i := 140) rfl
theorem tw141 : (Jvm.Cond.instanceMethod ({ cls := "java/lang/String", name := "equals", desc := "(Ljava/lang/Object;)Z" } : Jvm.MethodName)) ∈ tables_1 := List.mem_of_getElem? (i := 141) rfl
theorem d8_19 : decode method_3_code 19 = .ok (.ireturn, 1) := by decide +kernel
theorem ef8_r (m : MethodId) (x0 : Addr) (x1 : Addr) : entryFrame m #[(.ref x0), (.ref x1)] 2 = mkF m 0 #[.val (.ref x0), .val (.ref x1)] [] := by first | (simp [entryFrame, mkF, argsToLocals, Value.category]; done) | rfl
def Q8_r (Z : State) (a0_ : Addr) (h0 : Heap) (n0 : Nat) (v : Option Value) (h : Heap) (L : List Loc) : Prop := v = some (.int 1) ∧ Fr n0 L ∧ h = h0
theorem rm8_r (l : Launch) (Z : State) (a0 : Array Value) (hw : ∀ d ∈ tables_1, d.before a0 Z = true) (ws : List Jvm.Cond) (a0_ : Addr) (h0 : Heap) (n0 : Nat) (Z0 : n0 ≤ h0.size) (O0 : Old Z n0 h0) (E : Exa Z h0 a0_ "java/lang/String") :
    Met l Z ws (⟨"com/example/graphweave/graphweave/jsonld/ActiveContextInitialPinLaw", "same", "(Ljava/lang/String;Ljava/lang/String;)Z"⟩ : MethodName) method_3_code 2 (some .boolean) (Rm 1 0 0 14) #[(.ref a0_), (.ref a0_)] h0 (Q8_r Z a0_ h0 n0) := by
  refine Met.enter (L0 := #[.val (.ref a0_), .val (.ref a0_)]) (plainFor_of_name pn185) (fun m => ef8_r m a0_ a0_) ?_
  intro p e s m below meth c s₁ hx hby hml hown hnm hret hlk hZ X0 e0
  have N0 := Fr.nil n0
  have K0 : Keep h0 h0 [] := Keep.refl h0 _
  refine Go.st (t' := s₁.setTop (mkF m 16 #[.val (.ref a0_), .val (.ref a0_)] [(.ref a0_), (.ref a0_)])) (fun target kt => ?_) ?_
  · refine XS.aloadN X0.here hx rfl (hb hby d8_0) rfl rfl ?_
    refine XS.ifnonnullYes X0.here hx rfl (pc0 := 1) (pc' := 14) rfl (hb hby d8_1) rfl (by decide) (by decide) ?_
    refine XS.aloadN X0.here hx rfl (hb hby d8_14) rfl rfl ?_
    refine XS.aloadN X0.here hx rfl (hb hby d8_15) rfl rfl ?_
    exact kt
  obtain ⟨cq10, kq10, q10a, q10b, q10c⟩ := isOf hZ e0 E
  obtain ⟨_, _, ⟨T10, L10, k10, n10⟩, -, X10, ⟨Lc10, hQ10, l10, y10, z10⟩, st10⟩ := X0.virtualBack hx (y := (⟨"java/lang/String", "equals", "(Ljava/lang/Object;)Z"⟩ : MethodName)) (z := (⟨"java/lang/String", "equals", "(Ljava/lang/Object;)Z"⟩ : MethodName)) hown (mvT hZ (hw _ tw139)) (mvT hZ (hw _ tw140)) (notFace_of_selects (args := #[]) (mvT hZ (hw _ tw142))) (mvT hZ (hw _ tw142)) (mvT hZ (hw _ tw141)) (by decide) (backOf (W := 0) (rm23 l Z a0 hw [] a0_ h0 n0 (Nat.le_trans Z0 K0.1) O0  ) hZ (hw _ tw143) (hw _ tw5) (by decide) (by decide)) q10a q10c (g := (mkF m 16 #[.val (.ref a0_), .val (.ref a0_)] [(.ref a0_), (.ref a0_)])) rfl (by rw [hml]; rfl) (Steps.refl _) (argsL := [(.ref a0_)]) (rest := []) (lenOf pd9 rfl) rfl (by show 2 * 0 + _ ≤ _; exact Nat.le_of_eq rfl) (hb hby d8_16) (fun _ _ => ⟨rfl, e0, (by decide : 0 + 0 ≤ _), (by decide : 0 + 0 ≤ _)⟩)
  dsimp only [Pt.U, Pt.locs, Pt.cells, Pt.slots] at X10 l10 y10 z10 st10 hQ10
  subst l10 y10 z10
  obtain ⟨rfl, Nq10, eq10⟩ := hQ10
  have N10 := Fr.app N0 Nq10
  refine Go.by st10 ?_
  show Go _ _ _ _ _ _ _ (T10.setTop (mkF m 19 _ [(.int 1)]))
  refine Go.ret X10 (v := some (.int 1)) (fun h => by rw [hret] at h; cases h) hlk (fun fs hr => retN X10 hx (t := .boolean) hret (by simp) (hb hby d8_19) hr) ?_ (by decide) (by decide)
  show Q8_r Z a0_ h0 n0 _ T10.heap _
  rw [eq10]
  exact ⟨rfl, N10, rfl⟩
theorem d7_0 : decode prog_28_method_1_code 0 = .ok (.aload_n 0, 1) := by decide +kernel
theorem d7_1 : decode prog_28_method_1_code 1 = .ok (.invokespecial 1, 3) := by decide +kernel
theorem tw41 : (Jvm.Cond.methodLink "com/example/graphweave/graphweave/jsonld/ActiveContext" (1 : Nat) ({ cls := "java/lang/Object", name := "<init>", desc := "()V" } : Jvm.MethodName)) ∈ tables_1 := List.mem_of_getElem? (i := 41) rfl
theorem d7_4 : decode prog_28_method_1_code 4 = .ok (.aload_n 0, 1) := by decide +kernel
theorem d7_5 : decode prog_28_method_1_code 5 = .ok (.aload_n 1, 1) := by decide +kernel
theorem d7_6 : decode prog_28_method_1_code 6 = .ok (.putfield 7, 3) := by decide +kernel
theorem tw42 : (Jvm.Cond.fieldLink "com/example/graphweave/graphweave/jsonld/ActiveContext" (7 : Nat) "com/example/graphweave/graphweave/jsonld/ActiveContext" "originalBaseUrl" "Ljava/lang/String;") ∈ tables_1 := List.mem_of_getElem? (i := 42) rfl
theorem tw43 : (Jvm.Cond.laysFinal "com/example/graphweave/graphweave/jsonld/ActiveContext" "com/example/graphweave/graphweave/jsonld/ActiveContext" "originalBaseUrl" "Ljava/lang/String;") ∈ tables_1 := List.mem_of_getElem? (i := 43) rfl
theorem tw34 : (Jvm.Cond.instantiable "com/example/graphweave/graphweave/jsonld/ActiveContext" (10 : Nat)) ∈ tables_1 := List.mem_of_getElem? (i := 34) rfl
theorem d7_9 : decode prog_28_method_1_code 9 = .ok (.aload_n 0, 1) := by decide +kernel
theorem d7_10 : decode prog_28_method_1_code 10 = .ok (.aload_n 2, 1) := by decide +kernel
theorem d7_11 : decode prog_28_method_1_code 11 = .ok (.putfield 13, 3) := by decide +kernel
theorem tw44 : (Jvm.Cond.fieldLink "com/example/graphweave/graphweave/jsonld/ActiveContext" (13 : Nat) "com/example/graphweave/graphweave/jsonld/ActiveContext" "processingMode" "Lcom/example/graphweave/graphweave/jsonld/ProcessingMode;") ∈ tables_1 := List.mem_of_getElem? (i := 44) rfl
theorem tw45 : (Jvm.Cond.laysFinal "com/example/graphweave/graphweave/jsonld/ActiveContext" "com/example/graphweave/graphweave/jsonld/ActiveContext" "processingMode" "Lcom/example/graphweave/graphweave/jsonld/ProcessingMode;") ∈ tables_1 := List.mem_of_getElem? (i := 45) rfl
theorem d7_14 : decode prog_28_method_1_code 14 = .ok (.aload_n 0, 1) := by decide +kernel
theorem d7_15 : decode prog_28_method_1_code 15 = .ok (.aload_n 1, 1) := by decide +kernel
theorem d7_16 : decode prog_28_method_1_code 16 = .ok (.putfield 17, 3) := by decide +kernel
theorem tw46 : (Jvm.Cond.fieldLink "com/example/graphweave/graphweave/jsonld/ActiveContext" (17 : Nat) "com/example/graphweave/graphweave/jsonld/ActiveContext" "baseIri" "Ljava/lang/String;") ∈ tables_1 := List.mem_of_getElem? (i := 46) rfl
theorem tw47 : (Jvm.Cond.lays "com/example/graphweave/graphweave/jsonld/ActiveContext" "com/example/graphweave/graphweave/jsonld/ActiveContext" "baseIri" "Ljava/lang/String;") ∈ tables_1 := List.mem_of_getElem? (i := 47) rfl
theorem d7_19 : decode prog_28_method_1_code 19 = .ok (.aload_n 0, 1) := by decide +kernel
theorem d7_20 : decode prog_28_method_1_code 20 = .ok (.aload_n 3, 1) := by decide +kernel
theorem d7_21 : decode prog_28_method_1_code 21 = .ok (.putfield 20, 3) := by decide +kernel
theorem tw48 : (Jvm.Cond.fieldLink "com/example/graphweave/graphweave/jsonld/ActiveContext" (20 : Nat) "com/example/graphweave/graphweave/jsonld/ActiveContext" "terms" "Lcom/example/graphweave/graphweave/jsonld/TermMap;") ∈ tables_1 := List.mem_of_getElem? (i := 48) rfl
theorem tw49 : (Jvm.Cond.lays "com/example/graphweave/graphweave/jsonld/ActiveContext" "com/example/graphweave/graphweave/jsonld/ActiveContext" "terms" "Lcom/example/graphweave/graphweave/jsonld/TermMap;") ∈ tables_1 := List.mem_of_getElem? (i := 49) rfl
theorem d7_24 : decode prog_28_method_1_code 24 = .ok (.aload_n 0, 1) := by decide +kernel
theorem d7_25 : decode prog_28_method_1_code 25 = .ok (.aload 4, 2) := by decide +kernel
theorem d7_27 : decode prog_28_method_1_code 27 = .ok (.ifnonnull 7, 3) := by decide +kernel
theorem d7_30 : decode prog_28_method_1_code 30 = .ok (.aload_n 0, 1) := by decide +kernel
theorem d7_31 : decode prog_28_method_1_code 31 = .ok (.goto 5, 3) := by decide +kernel
theorem d7_36 : decode prog_28_method_1_code 36 = .ok (.putfield 24, 3) := by decide +kernel
theorem tw50 : (Jvm.Cond.fieldLink "com/example/graphweave/graphweave/jsonld/ActiveContext" (24 : Nat) "com/example/graphweave/graphweave/jsonld/ActiveContext" "processed" "Lcom/example/graphweave/graphweave/jsonld/ActiveContext;") ∈ tables_1 := List.mem_of_getElem? (i := 50) rfl
theorem tw51 : (Jvm.Cond.laysFinal "com/example/graphweave/graphweave/jsonld/ActiveContext" "com/example/graphweave/graphweave/jsonld/ActiveContext" "processed" "Lcom/example/graphweave/graphweave/jsonld/ActiveContext;") ∈ tables_1 := List.mem_of_getElem? (i := 51) rfl
theorem d7_39 : decode prog_28_method_1_code 39 = .ok (.aload_n 0, 1) := by decide +kernel
theorem d7_40 : decode prog_28_method_1_code 40 = .ok (.aload 5, 2) := by decide +kernel
theorem d7_42 : decode prog_28_method_1_code 42 = .ok (.putfield 28, 3) := by decide +kernel
theorem tw52 : (Jvm.Cond.fieldLink "com/example/graphweave/graphweave/jsonld/ActiveContext" (28 : Nat) "com/example/graphweave/graphweave/jsonld/ActiveContext" "placement" "Lcom/example/graphweave/graphweave/jsonld/Location$Placement;") ∈ tables_1 := List.mem_of_getElem? (i := 52) rfl
theorem tw53 : (Jvm.Cond.laysFinal "com/example/graphweave/graphweave/jsonld/ActiveContext" "com/example/graphweave/graphweave/jsonld/ActiveContext" "placement" "Lcom/example/graphweave/graphweave/jsonld/Location$Placement;") ∈ tables_1 := List.mem_of_getElem? (i := 53) rfl
theorem d7_45 : decode prog_28_method_1_code 45 = .ok (.return_, 1) := by decide +kernel
theorem tw68 : (Jvm.Cond.lays "com/example/graphweave/graphweave/jsonld/ActiveContext" "com/example/graphweave/graphweave/jsonld/ActiveContext" "vocab" "Ljava/lang/String;") ∈ tables_1 := List.mem_of_getElem? (i := 68) rfl
theorem tw70 : (Jvm.Cond.lays "com/example/graphweave/graphweave/jsonld/ActiveContext" "com/example/graphweave/graphweave/jsonld/ActiveContext" "defaultLanguage" "Ljava/lang/String;") ∈ tables_1 := List.mem_of_getElem? (i := 70) rfl
theorem tw72 : (Jvm.Cond.lays "com/example/graphweave/graphweave/jsonld/ActiveContext" "com/example/graphweave/graphweave/jsonld/ActiveContext" "defaultDirection" "Ljava/lang/String;") ∈ tables_1 := List.mem_of_getElem? (i := 72) rfl
theorem tw74 : (Jvm.Cond.lays "com/example/graphweave/graphweave/jsonld/ActiveContext" "com/example/graphweave/graphweave/jsonld/ActiveContext" "previousContext" "Lcom/example/graphweave/graphweave/jsonld/ActiveContext;") ∈ tables_1 := List.mem_of_getElem? (i := 74) rfl
theorem ef7_n (m : MethodId) (x0 : Addr) (x2 : Addr) (x3 : Addr) : entryFrame m #[(.ref x0), .null, (.ref x2), (.ref x3), .null, .null] 6 = mkF m 0 #[.val (.ref x0), .val .null, .val (.ref x2), .val (.ref x3), .val .null, .val .null] [] := by first | (simp [entryFrame, mkF, argsToLocals, Value.category]; done) | rfl
def Q7_n (Z : State) (a0_ : Addr) (pm_ : Addr) (tm_ : Addr) (h0 : Heap) (n0 : Nat) (v : Option Value) (h : Heap) (L : List Loc) : Prop := v = none ∧ Fr n0 L ∧ Keep h0 h [a0_] ∧ Exa Z h a0_ "com/example/graphweave/graphweave/jsonld/ActiveContext" ∧ Fld Z h a0_ "com/example/graphweave/graphweave/jsonld/ActiveContext" "originalBaseUrl" "Ljava/lang/String;" .null ∧ Fld Z h a0_ "com/example/graphweave/graphweave/jsonld/ActiveContext" "processingMode" "Lcom/example/graphweave/graphweave/jsonld/ProcessingMode;" (.ref pm_) ∧ Fld Z h a0_ "com/example/graphweave/graphweave/jsonld/ActiveContext" "baseIri" "Ljava/lang/String;" .null ∧ Fld Z h a0_ "com/example/graphweave/graphweave/jsonld/ActiveContext" "terms" "Lcom/example/graphweave/graphweave/jsonld/TermMap;" (.ref tm_) ∧ Fld Z h a0_ "com/example/graphweave/graphweave/jsonld/ActiveContext" "processed" "Lcom/example/graphweave/graphweave/jsonld/ActiveContext;" (.ref a0_) ∧ Fld Z h a0_ "com/example/graphweave/graphweave/jsonld/ActiveContext" "placement" "Lcom/example/graphweave/graphweave/jsonld/Location$Placement;" .null ∧ Fld Z h a0_ "com/example/graphweave/graphweave/jsonld/ActiveContext" "vocab" "Ljava/lang/String;" .null ∧ Fld Z h a0_ "com/example/graphweave/graphweave/jsonld/ActiveContext" "defaultLanguage" "Ljava/lang/String;" .null ∧ Fld Z h a0_ "com/example/graphweave/graphweave/jsonld/ActiveContext" "defaultDirection" "Ljava/lang/String;" .null ∧ Fld Z h a0_ "com/example/graphweave/graphweave/jsonld/ActiveContext" "previousContext" "Lcom/example/graphweave/graphweave/jsonld/ActiveContext;" .null
theorem pn226 : plainName "com/example/graphweave/graphweave/jsonld/ActiveContext" = true := by first | (simp [plainName, overriddenIn]; done) | decide +kernel
theorem rm7_n (l : Launch) (Z : State) (a0 : Array Value) (hw : ∀ d ∈ tables_1, d.before a0 Z = true) (ws : List Jvm.Cond) (a0_ : Addr) (pm_ : Addr) (tm_ : Addr) (h0 : Heap) (n0 : Nat) (Z0 : n0 ≤ h0.size) (O0 : Old Z n0 h0) (g0 : n0 ≤ a0_) (E_ac : Exa Z h0 a0_ "com/example/graphweave/graphweave/jsonld/ActiveContext") (F_originalBaseUrl : Fld Z h0 a0_ "com/example/graphweave/graphweave/jsonld/ActiveContext" "originalBaseUrl" "Ljava/lang/String;" .null) (F_processingMode : Fld Z h0 a0_ "com/example/graphweave/graphweave/jsonld/ActiveContext" "processingMode" "Lcom/example/graphweave/graphweave/jsonld/ProcessingMode;" .null) (F_baseIri : Fld Z h0 a0_ "com/example/graphweave/graphweave/jsonld/ActiveContext" "baseIri" "Ljava/lang/String;" .null) (F_terms : Fld Z h0 a0_ "com/example/graphweave/graphweave/jsonld/ActiveContext" "terms" "Lcom/example/graphweave/graphweave/jsonld/TermMap;" .null) (F_processed : Fld Z h0 a0_ "com/example/graphweave/graphweave/jsonld/ActiveContext" "processed" "Lcom/example/graphweave/graphweave/jsonld/ActiveContext;" .null) (F_placement : Fld Z h0 a0_ "com/example/graphweave/graphweave/jsonld/ActiveContext" "placement" "Lcom/example/graphweave/graphweave/jsonld/Location$Placement;" .null) (F_vocab : Fld Z h0 a0_ "com/example/graphweave/graphweave/jsonld/ActiveContext" "vocab" "Ljava/lang/String;" .null) (F_defaultLanguage : Fld Z h0 a0_ "com/example/graphweave/graphweave/jsonld/ActiveContext" "defaultLanguage" "Ljava/lang/String;" .null) (F_defaultDirection : Fld Z h0 a0_ "com/example/graphweave/graphweave/jsonld/ActiveContext" "defaultDirection" "Ljava/lang/String;" .null) (F_previousContext : Fld Z h0 a0_ "com/example/graphweave/graphweave/jsonld/ActiveContext" "previousContext" "Lcom/example/graphweave/graphweave/jsonld/ActiveContext;" .null) :
    Met l Z ws (⟨"com/example/graphweave/graphweave/jsonld/ActiveContext", "<init>", "(Ljava/lang/String;Lcom/example/graphweave/graphweave/jsonld/ProcessingMode;Lcom/example/graphweave/graphweave/jsonld/TermMap;Lcom/example/graphweave/graphweave/jsonld/ActiveContext;Lcom/example/graphweave/graphweave/jsonld/Location$Placement;)V"⟩ : MethodName) prog_28_method_1_code 6 none (Rm 1 0 0 12) #[(.ref a0_), .null, (.ref pm_), (.ref tm_), .null, .null] h0 (Q7_n Z a0_ pm_ tm_ h0 n0) := by
  refine Met.enter (L0 := #[.val (.ref a0_), .val .null, .val (.ref pm_), .val (.ref tm_), .val .null, .val .null]) (plainFor_of_name pn226) (fun m => ef7_n m a0_ pm_ tm_) ?_
  intro p e s m below meth c s₁ hx hby hml hown hnm hret hlk hZ X0 e0
  have N0 := Fr.nil n0
  have K0 : Keep h0 h0 [a0_] := Keep.refl h0 _
  refine Go.st (t' := s₁.setTop (mkF m 1 #[.val (.ref a0_), .val .null, .val (.ref pm_), .val (.ref tm_), .val .null, .val .null] [(.ref a0_)])) (fun target kt => ?_) ?_
  · refine XS.aloadN X0.here hx rfl (hb hby d7_0) rfl rfl ?_
    exact kt
  obtain ⟨T10, X10, e10, st10⟩ := initO X0 hx hZ hown (hw _ tw41) (hw _ tw23) (hw _ tw24) e0 (g := (mkF m 1 #[.val (.ref a0_), .val .null, .val (.ref pm_), .val (.ref tm_), .val .null, .val .null] [(.ref a0_)])) rfl (by rw [hml]; rfl) rfl (hb hby d7_1) (by decide) (W := 0) (by show 2 * 0 + _ ≤ _; exact Nat.le_of_eq rfl) (by decide)
  refine Go.st st10 ?_
  show Go _ _ _ _ _ _ _ (T10.setTop (mkF m 4 _ []))
  refine Go.st (t' := T10.setTop (mkF m 6 #[.val (.ref a0_), .val .null, .val (.ref pm_), .val (.ref tm_), .val .null, .val .null] [.null, (.ref a0_)])) (fun target kt => ?_) ?_
  · refine XS.aloadN X10.here hx rfl (hb hby d7_4) rfl rfl ?_
    refine XS.aloadN X10.here hx rfl (hb hby d7_5) rfl rfl ?_
    exact kt
  obtain ⟨T11, h11, X11, e11, W11, st11⟩ := putF X10 hx hZ hown (host := "") (Or.inl (hw _ tw42)) Via.refl e10 F_originalBaseUrl E_ac (Or.inr ⟨(hw _ tw43), rfl, hnm⟩) (hw _ tw34) (ty := (.object "java/lang/String")) (by decide) rfl rfl (g := (mkF m 6 #[.val (.ref a0_), .val .null, .val (.ref pm_), .val (.ref tm_), .val .null, .val .null] [.null, (.ref a0_)])) rfl rfl (hb hby d7_6)
  have F12 : Fld Z h11 a0_ "com/example/graphweave/graphweave/jsonld/ActiveContext" "originalBaseUrl" "Ljava/lang/String;" .null := F_originalBaseUrl.same W11
  have K13 := K0.wr W11 (Or.inl (List.mem_of_getElem? (i := 0) rfl))
  have O14 := O0.wr W11 g0
  have N11 := Fr.snoc X11 N0 g0
  refine Go.st st11 ?_
  show Go _ _ _ _ _ _ _ (T11.setTop (mkF m 9 _ []))
  refine Go.st (t' := T11.setTop (mkF m 11 #[.val (.ref a0_), .val .null, .val (.ref pm_), .val (.ref tm_), .val .null, .val .null] [(.ref pm_), (.ref a0_)])) (fun target kt => ?_) ?_
  · refine XS.aloadN X11.here hx rfl (hb hby d7_9) rfl rfl ?_
    refine XS.aloadN X11.here hx rfl (hb hby d7_10) rfl rfl ?_
    exact kt
  have c15 := F_processingMode.other W11 (Or.inr (slot_ne (Or.inr (hw _ tw45)) (Or.inr (hw _ tw43)) (by decide) (t := (.object "com/example/graphweave/graphweave/jsonld/ProcessingMode")) (t' := (.object "java/lang/String")) (by decide) (by decide)))
  have c16 := E_ac.wr W11
  obtain ⟨T17, h17, X17, e17, W17, st17⟩ := putF X11 hx hZ hown (host := "") (Or.inl (hw _ tw44)) Via.refl e11 c15 c16 (Or.inr ⟨(hw _ tw45), rfl, hnm⟩) (hw _ tw34) (ty := (.object "com/example/graphweave/graphweave/jsonld/ProcessingMode")) (by decide) rfl rfl (g := (mkF m 11 #[.val (.ref a0_), .val .null, .val (.ref pm_), .val (.ref tm_), .val .null, .val .null] [(.ref pm_), (.ref a0_)])) rfl rfl (hb hby d7_11)
  have F18 : Fld Z h17 a0_ "com/example/graphweave/graphweave/jsonld/ActiveContext" "processingMode" "Lcom/example/graphweave/graphweave/jsonld/ProcessingMode;" (.ref pm_) := c15.same W17
  have K19 := K13.wr W17 (Or.inl (List.mem_of_getElem? (i := 0) rfl))
  have O20 := O14.wr W17 g0
  have N17 := Fr.snoc X17 N11 g0
  refine Go.st st17 ?_
  show Go _ _ _ _ _ _ _ (T17.setTop (mkF m 14 _ []))
  refine Go.st (t' := T17.setTop (mkF m 16 #[.val (.ref a0_), .val .null, .val (.ref pm_), .val (.ref tm_), .val .null, .val .null] [.null, (.ref a0_)])) (fun target kt => ?_) ?_
  · refine XS.aloadN X17.here hx rfl (hb hby d7_14) rfl rfl ?_
    refine XS.aloadN X17.here hx rfl (hb hby d7_15) rfl rfl ?_
    exact kt
  have c21 := (F_baseIri.other W11 (Or.inr (slot_ne (Or.inl (hw _ tw47)) (Or.inr (hw _ tw43)) (by decide) (t := (.object "java/lang/String")) (t' := (.object "java/lang/String")) (by decide) (by decide)))).other W17 (Or.inr (slot_ne (Or.inl (hw _ tw47)) (Or.inr (hw _ tw45)) (by decide) (t := (.object "java/lang/String")) (t' := (.object "com/example/graphweave/graphweave/jsonld/ProcessingMode")) (by decide) (by decide)))
  have c22 := c16.wr W17
  obtain ⟨T23, h23, X23, e23, W23, st23⟩ := putF X17 hx hZ hown (host := "") (Or.inl (hw _ tw46)) Via.refl e17 c21 c22 (Or.inl (hw _ tw47)) (hw _ tw34) (ty := (.object "java/lang/String")) (by decide) rfl rfl (g := (mkF m 16 #[.val (.ref a0_), .val .null, .val (.ref pm_), .val (.ref tm_), .val .null, .val .null] [.null, (.ref a0_)])) rfl rfl (hb hby d7_16)
  have F24 : Fld Z h23 a0_ "com/example/graphweave/graphweave/jsonld/ActiveContext" "baseIri" "Ljava/lang/String;" .null := c21.same W23
  have K25 := K19.wr W23 (Or.inl (List.mem_of_getElem? (i := 0) rfl))
  have O26 := O20.wr W23 g0
  have N23 := Fr.snoc X23 N17 g0
  refine Go.st st23 ?_
  show Go _ _ _ _ _ _ _ (T23.setTop (mkF m 19 _ []))
  refine Go.st (t' := T23.setTop (mkF m 21 #[.val (.ref a0_), .val .null, .val (.ref pm_), .val (.ref tm_), .val .null, .val .null] [(.ref tm_), (.ref a0_)])) (fun target kt => ?_) ?_
  · refine XS.aloadN X23.here hx rfl (hb hby d7_19) rfl rfl ?_
    refine XS.aloadN X23.here hx rfl (hb hby d7_20) rfl rfl ?_
    exact kt
  have c27 := ((F_terms.other W11 (Or.inr (slot_ne (Or.inl (hw _ tw49)) (Or.inr (hw _ tw43)) (by decide) (t := (.object "com/example/graphweave/graphweave/jsonld/TermMap")) (t' := (.object "java/lang/String")) (by decide) (by decide)))).other W17 (Or.inr (slot_ne (Or.inl (hw _ tw49)) (Or.inr (hw _ tw45)) (by decide) (t := (.object "com/example/graphweave/graphweave/jsonld/TermMap")) (t' := (.object "com/example/graphweave/graphweave/jsonld/ProcessingMode")) (by decide) (by decide)))).other W23 (Or.inr (slot_ne (Or.inl (hw _ tw49)) (Or.inl (hw _ tw47)) (by decide) (t := (.object "com/example/graphweave/graphweave/jsonld/TermMap")) (t' := (.object "java/lang/String")) (by decide) (by decide)))
  have c28 := c22.wr W23
  obtain ⟨T29, h29, X29, e29, W29, st29⟩ := putF X23 hx hZ hown (host := "") (Or.inl (hw _ tw48)) Via.refl e23 c27 c28 (Or.inl (hw _ tw49)) (hw _ tw34) (ty := (.object "com/example/graphweave/graphweave/jsonld/TermMap")) (by decide) rfl rfl (g := (mkF m 21 #[.val (.ref a0_), .val .null, .val (.ref pm_), .val (.ref tm_), .val .null, .val .null] [(.ref tm_), (.ref a0_)])) rfl rfl (hb hby d7_21)
  have F30 : Fld Z h29 a0_ "com/example/graphweave/graphweave/jsonld/ActiveContext" "terms" "Lcom/example/graphweave/graphweave/jsonld/TermMap;" (.ref tm_) := c27.same W29
  have K31 := K25.wr W29 (Or.inl (List.mem_of_getElem? (i := 0) rfl))
  have O32 := O26.wr W29 g0
  have N29 := Fr.snoc X29 N23 g0
  refine Go.st st29 ?_
  show Go _ _ _ _ _ _ _ (T29.setTop (mkF m 24 _ []))
  refine Go.st (t' := T29.setTop (mkF m 36 #[.val (.ref a0_), .val .null, .val (.ref pm_), .val (.ref tm_), .val .null, .val .null] [(.ref a0_), (.ref a0_)])) (fun target kt => ?_) ?_
  · refine XS.aloadN X29.here hx rfl (hb hby d7_24) rfl rfl ?_
    refine XS.aload X29.here hx rfl (hb hby d7_25) rfl rfl ?_
    refine XS.ifnonnullNo X29.here hx rfl (hb hby d7_27) rfl ?_
    refine XS.aloadN X29.here hx rfl (hb hby d7_30) rfl rfl ?_
    refine XS.goto X29.here hx rfl (pc0 := 31) (pc' := 36) rfl (hb hby d7_31) (by decide) (by decide) ?_
    exact kt
  have c33 := (((F_processed.other W11 (Or.inr (slot_ne (Or.inr (hw _ tw51)) (Or.inr (hw _ tw43)) (by decide) (t := (.object "com/example/graphweave/graphweave/jsonld/ActiveContext")) (t' := (.object "java/lang/String")) (by decide) (by decide)))).other W17 (Or.inr (slot_ne (Or.inr (hw _ tw51)) (Or.inr (hw _ tw45)) (by decide) (t := (.object "com/example/graphweave/graphweave/jsonld/ActiveContext")) (t' := (.object "com/example/graphweave/graphweave/jsonld/ProcessingMode")) (by decide) (by decide)))).other W23 (Or.inr (slot_ne (Or.inr (hw _ tw51)) (Or.inl (hw _ tw47)) (by decide) (t := (.object "com/example/graphweave/graphweave/jsonld/ActiveContext")) (t' := (.object "java/lang/String")) (by decide) (by decide)))).other W29 (Or.inr (slot_ne (Or.inr (hw _ tw51)) (Or.inl (hw _ tw49)) (by decide) (t := (.object "com/example/graphweave/graphweave/jsonld/ActiveContext")) (t' := (.object "com/example/graphweave/graphweave/jsonld/TermMap")) (by decide) (by decide)))
  have c34 := c28.wr W29
  obtain ⟨T35, h35, X35, e35, W35, st35⟩ := putF X29 hx hZ hown (host := "") (Or.inl (hw _ tw50)) Via.refl e29 c33 c34 (Or.inr ⟨(hw _ tw51), rfl, hnm⟩) (hw _ tw34) (ty := (.object "com/example/graphweave/graphweave/jsonld/ActiveContext")) (by decide) rfl rfl (g := (mkF m 36 #[.val (.ref a0_), .val .null, .val (.ref pm_), .val (.ref tm_), .val .null, .val .null] [(.ref a0_), (.ref a0_)])) rfl rfl (hb hby d7_36)
  have F36 : Fld Z h35 a0_ "com/example/graphweave/graphweave/jsonld/ActiveContext" "processed" "Lcom/example/graphweave/graphweave/jsonld/ActiveContext;" (.ref a0_) := c33.same W35
  have K37 := K31.wr W35 (Or.inl (List.mem_of_getElem? (i := 0) rfl))
  have O38 := O32.wr W35 g0
  have N35 := Fr.snoc X35 N29 g0
  refine Go.st st35 ?_
  show Go _ _ _ _ _ _ _ (T35.setTop (mkF m 39 _ []))
  refine Go.st (t' := T35.setTop (mkF m 42 #[.val (.ref a0_), .val .null, .val (.ref pm_), .val (.ref tm_), .val .null, .val .null] [.null, (.ref a0_)])) (fun target kt => ?_) ?_
  · refine XS.aloadN X35.here hx rfl (hb hby d7_39) rfl rfl ?_
    refine XS.aload X35.here hx rfl (hb hby d7_40) rfl rfl ?_
    exact kt
  have c39 := ((((F_placement.other W11 (Or.inr (slot_ne (Or.inr (hw _ tw53)) (Or.inr (hw _ tw43)) (by decide) (t := (.object "com/example/graphweave/graphweave/jsonld/Location$Placement")) (t' := (.object "java/lang/String")) (by decide) (by decide)))).other W17 (Or.inr (slot_ne (Or.inr (hw _ tw53)) (Or.inr (hw _ tw45)) (by decide) (t := (.object "com/example/graphweave/graphweave/jsonld/Location$Placement")) (t' := (.object "com/example/graphweave/graphweave/jsonld/ProcessingMode")) (by decide) (by decide)))).other W23 (Or.inr (slot_ne (Or.inr (hw _ tw53)) (Or.inl (hw _ tw47)) (by decide) (t := (.object "com/example/graphweave/graphweave/jsonld/Location$Placement")) (t' := (.object "java/lang/String")) (by decide) (by decide)))).other W29 (Or.inr (slot_ne (Or.inr (hw _ tw53)) (Or.inl (hw _ tw49)) (by decide) (t := (.object "com/example/graphweave/graphweave/jsonld/Location$Placement")) (t' := (.object "com/example/graphweave/graphweave/jsonld/TermMap")) (by decide) (by decide)))).other W35 (Or.inr (slot_ne (Or.inr (hw _ tw53)) (Or.inr (hw _ tw51)) (by decide) (t := (.object "com/example/graphweave/graphweave/jsonld/Location$Placement")) (t' := (.object "com/example/graphweave/graphweave/jsonld/ActiveContext")) (by decide) (by decide)))
  have c40 := c34.wr W35
  obtain ⟨T41, h41, X41, e41, W41, st41⟩ := putF X35 hx hZ hown (host := "") (Or.inl (hw _ tw52)) Via.refl e35 c39 c40 (Or.inr ⟨(hw _ tw53), rfl, hnm⟩) (hw _ tw34) (ty := (.object "com/example/graphweave/graphweave/jsonld/Location$Placement")) (by decide) rfl rfl (g := (mkF m 42 #[.val (.ref a0_), .val .null, .val (.ref pm_), .val (.ref tm_), .val .null, .val .null] [.null, (.ref a0_)])) rfl rfl (hb hby d7_42)
  have F42 : Fld Z h41 a0_ "com/example/graphweave/graphweave/jsonld/ActiveContext" "placement" "Lcom/example/graphweave/graphweave/jsonld/Location$Placement;" .null := c39.same W41
  have K43 := K37.wr W41 (Or.inl (List.mem_of_getElem? (i := 0) rfl))
  have O44 := O38.wr W41 g0
  have N41 := Fr.snoc X41 N35 g0
  refine Go.st st41 ?_
  show Go _ _ _ _ _ _ _ (T41.setTop (mkF m 45 _ []))
  have c45 := c40.wr W41
  have c46 := ((((F12.other W17 (Or.inr (slot_ne (Or.inr (hw _ tw43)) (Or.inr (hw _ tw45)) (by decide) (t := (.object "java/lang/String")) (t' := (.object "com/example/graphweave/graphweave/jsonld/ProcessingMode")) (by decide) (by decide)))).other W23 (Or.inr (slot_ne (Or.inr (hw _ tw43)) (Or.inl (hw _ tw47)) (by decide) (t := (.object "java/lang/String")) (t' := (.object "java/lang/String")) (by decide) (by decide)))).other W29 (Or.inr (slot_ne (Or.inr (hw _ tw43)) (Or.inl (hw _ tw49)) (by decide) (t := (.object "java/lang/String")) (t' := (.object "com/example/graphweave/graphweave/jsonld/TermMap")) (by decide) (by decide)))).other W35 (Or.inr (slot_ne (Or.inr (hw _ tw43)) (Or.inr (hw _ tw51)) (by decide) (t := (.object "java/lang/String")) (t' := (.object "com/example/graphweave/graphweave/jsonld/ActiveContext")) (by decide) (by decide)))).other W41 (Or.inr (slot_ne (Or.inr (hw _ tw43)) (Or.inr (hw _ tw53)) (by decide) (t := (.object "java/lang/String")) (t' := (.object "com/example/graphweave/graphweave/jsonld/Location$Placement")) (by decide) (by decide)))
  have c47 := (((F18.other W23 (Or.inr (slot_ne (Or.inr (hw _ tw45)) (Or.inl (hw _ tw47)) (by decide) (t := (.object "com/example/graphweave/graphweave/jsonld/ProcessingMode")) (t' := (.object "java/lang/String")) (by decide) (by decide)))).other W29 (Or.inr (slot_ne (Or.inr (hw _ tw45)) (Or.inl (hw _ tw49)) (by decide) (t := (.object "com/example/graphweave/graphweave/jsonld/ProcessingMode")) (t' := (.object "com/example/graphweave/graphweave/jsonld/TermMap")) (by decide) (by decide)))).other W35 (Or.inr (slot_ne (Or.inr (hw _ tw45)) (Or.inr (hw _ tw51)) (by decide) (t := (.object "com/example/graphweave/graphweave/jsonld/ProcessingMode")) (t' := (.object "com/example/graphweave/graphweave/jsonld/ActiveContext")) (by decide) (by decide)))).other W41 (Or.inr (slot_ne (Or.inr (hw _ tw45)) (Or.inr (hw _ tw53)) (by decide) (t := (.object "com/example/graphweave/graphweave/jsonld/ProcessingMode")) (t' := (.object "com/example/graphweave/graphweave/jsonld/Location$Placement")) (by decide) (by decide)))
  have c48 := ((F24.other W29 (Or.inr (slot_ne (Or.inl (hw _ tw47)) (Or.inl (hw _ tw49)) (by decide) (t := (.object "java/lang/String")) (t' := (.object "com/example/graphweave/graphweave/jsonld/TermMap")) (by decide) (by decide)))).other W35 (Or.inr (slot_ne (Or.inl (hw _ tw47)) (Or.inr (hw _ tw51)) (by decide) (t := (.object "java/lang/String")) (t' := (.object "com/example/graphweave/graphweave/jsonld/ActiveContext")) (by decide) (by decide)))).other W41 (Or.inr (slot_ne (Or.inl (hw _ tw47)) (Or.inr (hw _ tw53)) (by decide) (t := (.object "java/lang/String")) (t' := (.object "com/example/graphweave/graphweave/jsonld/Location$Placement")) (by decide) (by decide)))
  have c49 := (F30.other W35 (Or.inr (slot_ne (Or.inl (hw _ tw49)) (Or.inr (hw _ tw51)) (by decide) (t := (.object "com/example/graphweave/graphweave/jsonld/TermMap")) (t' := (.object "com/example/graphweave/graphweave/jsonld/ActiveContext")) (by decide) (by decide)))).other W41 (Or.inr (slot_ne (Or.inl (hw _ tw49)) (Or.inr (hw _ tw53)) (by decide) (t := (.object "com/example/graphweave/graphweave/jsonld/TermMap")) (t' := (.object "com/example/graphweave/graphweave/jsonld/Location$Placement")) (by decide) (by decide)))
  have c50 := F36.other W41 (Or.inr (slot_ne (Or.inr (hw _ tw51)) (Or.inr (hw _ tw53)) (by decide) (t := (.object "com/example/graphweave/graphweave/jsonld/ActiveContext")) (t' := (.object "com/example/graphweave/graphweave/jsonld/Location$Placement")) (by decide) (by decide)))
  have c51 := (((((F_vocab.other W11 (Or.inr (slot_ne (Or.inl (hw _ tw68)) (Or.inr (hw _ tw43)) (by decide) (t := (.object "java/lang/String")) (t' := (.object "java/lang/String")) (by decide) (by decide)))).other W17 (Or.inr (slot_ne (Or.inl (hw _ tw68)) (Or.inr (hw _ tw45)) (by decide) (t := (.object "java/lang/String")) (t' := (.object "com/example/graphweave/graphweave/jsonld/ProcessingMode")) (by decide) (by decide)))).other W23 (Or.inr (slot_ne (Or.inl (hw _ tw68)) (Or.inl (hw _ tw47)) (by decide) (t := (.object "java/lang/String")) (t' := (.object "java/lang/String")) (by decide) (by decide)))).other W29 (Or.inr (slot_ne (Or.inl (hw _ tw68)) (Or.inl (hw _ tw49)) (by decide) (t := (.object "java/lang/String")) (t' := (.object "com/example/graphweave/graphweave/jsonld/TermMap")) (by decide) (by decide)))).other W35 (Or.inr (slot_ne (Or.inl (hw _ tw68)) (Or.inr (hw _ tw51)) (by decide) (t := (.object "java/lang/String")) (t' := (.object "com/example/graphweave/graphweave/jsonld/ActiveContext")) (by decide) (by decide)))).other W41 (Or.inr (slot_ne (Or.inl (hw _ tw68)) (Or.inr (hw _ tw53)) (by decide) (t := (.object "java/lang/String")) (t' := (.object "com/example/graphweave/graphweave/jsonld/Location$Placement")) (by decide) (by decide)))
  have c52 := (((((F_defaultLanguage.other W11 (Or.inr (slot_ne (Or.inl (hw _ tw70)) (Or.inr (hw _ tw43)) (by decide) (t := (.object "java/lang/String")) (t' := (.object "java/lang/String")) (by decide) (by decide)))).other W17 (Or.inr (slot_ne (Or.inl (hw _ tw70)) (Or.inr (hw _ tw45)) (by decide) (t := (.object "java/lang/String")) (t' := (.object "com/example/graphweave/graphweave/jsonld/ProcessingMode")) (by decide) (by decide)))).other W23 (Or.inr (slot_ne (Or.inl (hw _ tw70)) (Or.inl (hw _ tw47)) (by decide) (t := (.object "java/lang/String")) (t' := (.object "java/lang/String")) (by decide) (by decide)))).other W29 (Or.inr (slot_ne (Or.inl (hw _ tw70)) (Or.inl (hw _ tw49)) (by decide) (t := (.object "java/lang/String")) (t' := (.object "com/example/graphweave/graphweave/jsonld/TermMap")) (by decide) (by decide)))).other W35 (Or.inr (slot_ne (Or.inl (hw _ tw70)) (Or.inr (hw _ tw51)) (by decide) (t := (.object "java/lang/String")) (t' := (.object "com/example/graphweave/graphweave/jsonld/ActiveContext")) (by decide) (by decide)))).other W41 (Or.inr (slot_ne (Or.inl (hw _ tw70)) (Or.inr (hw _ tw53)) (by decide) (t := (.object "java/lang/String")) (t' := (.object "com/example/graphweave/graphweave/jsonld/Location$Placement")) (by decide) (by decide)))
  have c53 := (((((F_defaultDirection.other W11 (Or.inr (slot_ne (Or.inl (hw _ tw72)) (Or.inr (hw _ tw43)) (by decide) (t := (.object "java/lang/String")) (t' := (.object "java/lang/String")) (by decide) (by decide)))).other W17 (Or.inr (slot_ne (Or.inl (hw _ tw72)) (Or.inr (hw _ tw45)) (by decide) (t := (.object "java/lang/String")) (t' := (.object "com/example/graphweave/graphweave/jsonld/ProcessingMode")) (by decide) (by decide)))).other W23 (Or.inr (slot_ne (Or.inl (hw _ tw72)) (Or.inl (hw _ tw47)) (by decide) (t := (.object "java/lang/String")) (t' := (.object "java/lang/String")) (by decide) (by decide)))).other W29 (Or.inr (slot_ne (Or.inl (hw _ tw72)) (Or.inl (hw _ tw49)) (by decide) (t := (.object "java/lang/String")) (t' := (.object "com/example/graphweave/graphweave/jsonld/TermMap")) (by decide) (by decide)))).other W35 (Or.inr (slot_ne (Or.inl (hw _ tw72)) (Or.inr (hw _ tw51)) (by decide) (t := (.object "java/lang/String")) (t' := (.object "com/example/graphweave/graphweave/jsonld/ActiveContext")) (by decide) (by decide)))).other W41 (Or.inr (slot_ne (Or.inl (hw _ tw72)) (Or.inr (hw _ tw53)) (by decide) (t := (.object "java/lang/String")) (t' := (.object "com/example/graphweave/graphweave/jsonld/Location$Placement")) (by decide) (by decide)))
  have c54 := (((((F_previousContext.other W11 (Or.inr (slot_ne (Or.inl (hw _ tw74)) (Or.inr (hw _ tw43)) (by decide) (t := (.object "com/example/graphweave/graphweave/jsonld/ActiveContext")) (t' := (.object "java/lang/String")) (by decide) (by decide)))).other W17 (Or.inr (slot_ne (Or.inl (hw _ tw74)) (Or.inr (hw _ tw45)) (by decide) (t := (.object "com/example/graphweave/graphweave/jsonld/ActiveContext")) (t' := (.object "com/example/graphweave/graphweave/jsonld/ProcessingMode")) (by decide) (by decide)))).other W23 (Or.inr (slot_ne (Or.inl (hw _ tw74)) (Or.inl (hw _ tw47)) (by decide) (t := (.object "com/example/graphweave/graphweave/jsonld/ActiveContext")) (t' := (.object "java/lang/String")) (by decide) (by decide)))).other W29 (Or.inr (slot_ne (Or.inl (hw _ tw74)) (Or.inl (hw _ tw49)) (by decide) (t := (.object "com/example/graphweave/graphweave/jsonld/ActiveContext")) (t' := (.object "com/example/graphweave/graphweave/jsonld/TermMap")) (by decide) (by decide)))).other W35 (Or.inr (slot_ne (Or.inl (hw _ tw74)) (Or.inr (hw _ tw51)) (by decide) (t := (.object "com/example/graphweave/graphweave/jsonld/ActiveContext")) (t' := (.object "com/example/graphweave/graphweave/jsonld/ActiveContext")) (by decide) (by decide)))).other W41 (Or.inr (slot_ne (Or.inl (hw _ tw74)) (Or.inr (hw _ tw53)) (by decide) (t := (.object "com/example/graphweave/graphweave/jsonld/ActiveContext")) (t' := (.object "com/example/graphweave/graphweave/jsonld/Location$Placement")) (by decide) (by decide)))
  refine Go.ret X41 (v := none) (fun _ => rfl) hlk (fun fs hr => X41.returnOut hx hret (hb hby d7_45) hr) ?_ (by decide) (by decide)
  show Q7_n Z a0_ pm_ tm_ h0 n0 _ T41.heap _
  rw [e41]
  exact ⟨rfl, N41, K43, c45, c46, c47, c48, c49, c50, F42, c51, c52, c53, c54⟩
theorem d6_0 : decode prog_28_method_2_code 0 = .ok (.new 8, 3) := by decide +kernel
theorem tw33 : (Jvm.Cond.classLink "com/example/graphweave/graphweave/jsonld/ActiveContext" (8 : Nat) "com/example/graphweave/graphweave/jsonld/ActiveContext") ∈ tables_1 := List.mem_of_getElem? (i := 33) rfl
theorem tw31 : (Jvm.Cond.initialized "com/example/graphweave/graphweave/jsonld/ActiveContext") ∈ tables_1 := List.mem_of_getElem? (i := 31) rfl
theorem d6_3 : decode prog_28_method_2_code 3 = .ok (.dup, 1) := by decide +kernel
theorem d6_4 : decode prog_28_method_2_code 4 = .ok (.aload_n 0, 1) := by decide +kernel
theorem d6_5 : decode prog_28_method_2_code 5 = .ok (.aload_n 1, 1) := by decide +kernel
theorem d6_6 : decode prog_28_method_2_code 6 = .ok (.getstatic 32, 3) := by decide +kernel
theorem tw35 : (Jvm.Cond.fieldLink "com/example/graphweave/graphweave/jsonld/ActiveContext" (32 : Nat) "com/example/graphweave/graphweave/jsonld/TermMap" "EMPTY" "Lcom/example/graphweave/graphweave/jsonld/TermMap;") ∈ tables_1 := List.mem_of_getElem? (i := 35) rfl
theorem d6_9 : decode prog_28_method_2_code 9 = .ok (.aconst_null, 1) := by decide +kernel
theorem d6_10 : decode prog_28_method_2_code 10 = .ok (.aconst_null, 1) := by decide +kernel
theorem d6_11 : decode prog_28_method_2_code 11 = .ok (.invokespecial 37, 3) := by decide +kernel
theorem tw38 : (Jvm.Cond.methodLink "com/example/graphweave/graphweave/jsonld/ActiveContext" (37 : Nat) ({ cls := "com/example/graphweave/graphweave/jsonld/ActiveContext", name := "<init>", desc := "(Ljava/lang/String;Lcom/example/graphweave/graphweave/jsonld/ProcessingMode;Lcom/example/graphweave/graphweave/jsonld/TermMap;Lcom/example/graphweave/graphweave/jsonld/ActiveContext;Lcom/example/graphweave/graphweave/jsonld/Location$Placement;)V" } : Jvm.MethodName)) ∈ tables_1 := List.mem_of_getElem? (i := 38) rfl
theorem tw40 : (Jvm.Cond.code ({ cls := "com/example/graphweave/graphweave/jsonld/ActiveContext", name := "<init>", desc := "(Ljava/lang/String;Lcom/example/graphweave/graphweave/jsonld/ProcessingMode;Lcom/example/graphweave/graphweave/jsonld/TermMap;Lcom/example/graphweave/graphweave/jsonld/ActiveContext;Lcom/example/graphweave/graphweave/jsonld/Location$Placement;)V" } : Jvm.MethodName) prog_28_method_1_code (6 : Nat) (Option.none : Option Jvm.ClassFile.FieldType)) ∈ tables_1 := List.mem_of_getElem? (i := 40) rfl
theorem pd10 : parseMethodDescriptor "(Ljava/lang/String;Lcom/example/graphweave/graphweave/jsonld/ProcessingMode;Lcom/example/graphweave/graphweave/jsonld/TermMap;Lcom/example/graphweave/graphweave/jsonld/ActiveContext;Lcom/example/graphweave/graphweave/jsonld/Location$Placement;)V" = some ⟨[(.object "java/lang/String"), (.object "com/example/graphweave/graphweave/jsonld/ProcessingMode"), (.object "com/example/graphweave/graphweave/jsonld/TermMap"), (.object "com/example/graphweave/graphweave/jsonld/ActiveContext"), (.object "com/example/graphweave/graphweave/jsonld/Location$Placement")], none⟩ := by decide +kernel
theorem tw39 : (Jvm.Cond.instanceMethod ({ cls := "com/example/graphweave/graphweave/jsonld/ActiveContext", name := "<init>", desc := "(Ljava/lang/String;Lcom/example/graphweave/graphweave/jsonld/ProcessingMode;Lcom/example/graphweave/graphweave/jsonld/TermMap;Lcom/example/graphweave/graphweave/jsonld/ActiveContext;Lcom/example/graphweave/graphweave/jsonld/Location$Placement;)V" } : Jvm.MethodName)) ∈ tables_1 := List.mem_of_getElem? (i := 39) rfl
theorem d6_14 : decode prog_28_method_2_code 14 = .ok (.areturn, 1) := by decide +kernel
theorem ef6_n (m : MethodId) (x1 : Addr) : entryFrame m #[.null, (.ref x1)] 2 = mkF m 0 #[.val .null, .val (.ref x1)] [] := by first | (simp [entryFrame, mkF, argsToLocals, Value.category]; done) | rfl
def Q6_n (Z : State) (pm_ : Addr) (wt : Addr) (wr : Addr) (h0 : Heap) (n0 : Nat) (v : Option Value) (h : Heap) (L : List Loc) : Prop := ∃ (b : Addr), v = some (.ref b) ∧ Fr n0 L ∧ Keep h0 h [] ∧ h0.size ≤ b ∧ Exa Z h b "com/example/graphweave/graphweave/jsonld/ActiveContext" ∧ Fld Z h b "com/example/graphweave/graphweave/jsonld/ActiveContext" "originalBaseUrl" "Ljava/lang/String;" .null ∧ Fld Z h b "com/example/graphweave/graphweave/jsonld/ActiveContext" "processingMode" "Lcom/example/graphweave/graphweave/jsonld/ProcessingMode;" (.ref pm_) ∧ Fld Z h b "com/example/graphweave/graphweave/jsonld/ActiveContext" "baseIri" "Ljava/lang/String;" .null ∧ Fld Z h b "com/example/graphweave/graphweave/jsonld/ActiveContext" "terms" "Lcom/example/graphweave/graphweave/jsonld/TermMap;" (.ref wt) ∧ Fld Z h b "com/example/graphweave/graphweave/jsonld/ActiveContext" "processed" "Lcom/example/graphweave/graphweave/jsonld/ActiveContext;" (.ref b) ∧ Fld Z h b "com/example/graphweave/graphweave/jsonld/ActiveContext" "placement" "Lcom/example/graphweave/graphweave/jsonld/Location$Placement;" .null ∧ Fld Z h b "com/example/graphweave/graphweave/jsonld/ActiveContext" "vocab" "Ljava/lang/String;" .null ∧ Fld Z h b "com/example/graphweave/graphweave/jsonld/ActiveContext" "defaultLanguage" "Ljava/lang/String;" .null ∧ Fld Z h b "com/example/graphweave/graphweave/jsonld/ActiveContext" "defaultDirection" "Ljava/lang/String;" .null ∧ Fld Z h b "com/example/graphweave/graphweave/jsonld/ActiveContext" "previousContext" "Lcom/example/graphweave/graphweave/jsonld/ActiveContext;" .null
theorem rm6_n (l : Launch) (Z : State) (a0 : Array Value) (hw : ∀ d ∈ tables_1, d.before a0 Z = true) (ws : List Jvm.Cond) (pm_ : Addr) (wt : Addr) (wr : Addr) (h0 : Heap) (n0 : Nat) (Z0 : n0 ≤ h0.size) (O0 : Old Z n0 h0) (S_EM : Sta Z Z.heap "com/example/graphweave/graphweave/jsonld/TermMap" "EMPTY" "Lcom/example/graphweave/graphweave/jsonld/TermMap;" (.ref wt)) :
    Met l Z ws (⟨"com/example/graphweave/graphweave/jsonld/ActiveContext", "initial", "(Ljava/lang/String;Lcom/example/graphweave/graphweave/jsonld/ProcessingMode;)Lcom/example/graphweave/graphweave/jsonld/ActiveContext;"⟩ : MethodName) prog_28_method_2_code 2 (some (.object "com/example/graphweave/graphweave/jsonld/ActiveContext")) (Rm 2 1 10 30) #[.null, (.ref pm_)] h0 (Q6_n Z pm_ wt wr h0 n0) := by
  refine Met.enter (L0 := #[.val .null, .val (.ref pm_)]) (plainFor_of_name pn226) (fun m => ef6_n m pm_) ?_
  intro p e s m below meth c s₁ hx hby hml hown hnm hret hlk hZ X0 e0
  have N0 := Fr.nil n0
  have K0 : Keep h0 h0 [] := Keep.refl h0 _
  obtain ⟨T10, h10, X10, e10, E10, A10, D10, -, st10⟩ := newO X0 hx hZ hown (hw _ tw33) (hw _ tw34) (hw _ tw31) e0 (g := (mkF m 0 #[.val .null, .val (.ref pm_)] [])) rfl (hb hby d6_0) (by decide) (by decide)
  obtain ⟨b10, g10⟩ : ∃ z, z = h0.size := ⟨_, rfl⟩
  rw [← g10] at A10 D10 st10
  have lb11 : h0.size ≤ b10 := Nat.le_of_eq g10.symm
  have sz12 : h0.size ≤ b10 := Nat.le_trans K0.1 lb11
  have g13 : n0 ≤ b10 := Nat.le_trans Z0 sz12
  have K14 := K0.ext E10
  have O15 := O0.ext E10
  have F16 : Fld Z h10 b10 "com/example/graphweave/graphweave/jsonld/ActiveContext" "originalBaseUrl" "Ljava/lang/String;" .null := D10 (Or.inr (hw _ tw43)) (ty := (.object "java/lang/String")) (by decide)
  have F17 : Fld Z h10 b10 "com/example/graphweave/graphweave/jsonld/ActiveContext" "processingMode" "Lcom/example/graphweave/graphweave/jsonld/ProcessingMode;" .null := D10 (Or.inr (hw _ tw45)) (ty := (.object "com/example/graphweave/graphweave/jsonld/ProcessingMode")) (by decide)
  have F18 : Fld Z h10 b10 "com/example/graphweave/graphweave/jsonld/ActiveContext" "baseIri" "Ljava/lang/String;" .null := D10 (Or.inl (hw _ tw47)) (ty := (.object "java/lang/String")) (by decide)
  have F19 : Fld Z h10 b10 "com/example/graphweave/graphweave/jsonld/ActiveContext" "terms" "Lcom/example/graphweave/graphweave/jsonld/TermMap;" .null := D10 (Or.inl (hw _ tw49)) (ty := (.object "com/example/graphweave/graphweave/jsonld/TermMap")) (by decide)
  have F20 : Fld Z h10 b10 "com/example/graphweave/graphweave/jsonld/ActiveContext" "processed" "Lcom/example/graphweave/graphweave/jsonld/ActiveContext;" .null := D10 (Or.inr (hw _ tw51)) (ty := (.object "com/example/graphweave/graphweave/jsonld/ActiveContext")) (by decide)
  have F21 : Fld Z h10 b10 "com/example/graphweave/graphweave/jsonld/ActiveContext" "placement" "Lcom/example/graphweave/graphweave/jsonld/Location$Placement;" .null := D10 (Or.inr (hw _ tw53)) (ty := (.object "com/example/graphweave/graphweave/jsonld/Location$Placement")) (by decide)
  have F22 : Fld Z h10 b10 "com/example/graphweave/graphweave/jsonld/ActiveContext" "vocab" "Ljava/lang/String;" .null := D10 (Or.inl (hw _ tw68)) (ty := (.object "java/lang/String")) (by decide)
  have F23 : Fld Z h10 b10 "com/example/graphweave/graphweave/jsonld/ActiveContext" "defaultLanguage" "Ljava/lang/String;" .null := D10 (Or.inl (hw _ tw70)) (ty := (.object "java/lang/String")) (by decide)
  have F24 : Fld Z h10 b10 "com/example/graphweave/graphweave/jsonld/ActiveContext" "defaultDirection" "Ljava/lang/String;" .null := D10 (Or.inl (hw _ tw72)) (ty := (.object "java/lang/String")) (by decide)
  have F25 : Fld Z h10 b10 "com/example/graphweave/graphweave/jsonld/ActiveContext" "previousContext" "Lcom/example/graphweave/graphweave/jsonld/ActiveContext;" .null := D10 (Or.inl (hw _ tw74)) (ty := (.object "com/example/graphweave/graphweave/jsonld/ActiveContext")) (by decide)
  refine Go.st st10 ?_
  show Go _ _ _ _ _ _ _ (T10.setTop (mkF m 3 _ [(.ref b10)]))
  refine Go.st (t' := T10.setTop (mkF m 6 #[.val .null, .val (.ref pm_)] [(.ref pm_), .null, (.ref b10), (.ref b10)])) (fun target kt => ?_) ?_
  · refine XS.dup X10.here hx rfl (hb hby d6_3) rfl rfl ?_
    refine XS.aloadN X10.here hx rfl (hb hby d6_4) rfl rfl ?_
    refine XS.aloadN X10.here hx rfl (hb hby d6_5) rfl rfl ?_
    exact kt
  obtain ⟨T26, X26, e26, st26⟩ := getS2 X10 hx hZ hown (host := "") (Or.inl (hw _ tw35)) Via.refl e10 (S_EM.ext O15.2) (g := (mkF m 6 #[.val .null, .val (.ref pm_)] [(.ref pm_), .null, (.ref b10), (.ref b10)])) rfl (hb hby d6_6)
  refine Go.st st26 ?_
  show Go _ _ _ _ _ _ _ (T26.setTop (mkF m 9 _ [(.ref wt), (.ref pm_), .null, (.ref b10), (.ref b10)]))
  refine Go.st (t' := T26.setTop (mkF m 11 #[.val .null, .val (.ref pm_)] [.null, .null, (.ref wt), (.ref pm_), .null, (.ref b10), (.ref b10)])) (fun target kt => ?_) ?_
  · refine XS.aconstNull X26.here hx rfl (hb hby d6_9) ?_
    refine XS.aconstNull X26.here hx rfl (hb hby d6_10) ?_
    exact kt
  obtain ⟨_, _, ⟨T27, L27, k27, n27⟩, -, X27, ⟨Lc27, hQ27, l27, y27, z27⟩, st27⟩ := X26.specialBack hx (y := (⟨"com/example/graphweave/graphweave/jsonld/ActiveContext", "<init>", "(Ljava/lang/String;Lcom/example/graphweave/graphweave/jsonld/ProcessingMode;Lcom/example/graphweave/graphweave/jsonld/TermMap;Lcom/example/graphweave/graphweave/jsonld/ActiveContext;Lcom/example/graphweave/graphweave/jsonld/Location$Placement;)V"⟩ : MethodName)) rfl hown (mvT hZ (hw _ tw38)) (mvT hZ (hw _ tw39)) (mvT hZ (hw _ tw40)) (by decide) (backOf (W := 1) (rm7_n l Z a0 hw [] b10 pm_ wt h10 n0 (Nat.le_trans Z0 K14.1) O15  g13 A10 F16 F17 F18 F19 F20 F21 F22 F23 F24 F25) hZ (hw _ tw40) (hw _ tw31) (by decide) (by decide)) (g := (mkF m 11 #[.val .null, .val (.ref pm_)] [.null, .null, (.ref wt), (.ref pm_), .null, (.ref b10), (.ref b10)])) rfl (by rw [hml]; rfl) (Steps.refl _) (a := b10) (argsL := [.null, (.ref pm_), (.ref wt), .null, .null]) (rest := [(.ref b10)]) (lenOf pd10 rfl) rfl (by show 2 * 0 + _ ≤ _; exact Nat.le_of_eq rfl) (hb hby d6_11) (fun _ _ => ⟨rfl, e26, (by decide : 1 + 0 ≤ _), (by decide : 10 + 0 ≤ _)⟩)
  dsimp only [Pt.U, Pt.locs, Pt.cells, Pt.slots] at X27 l27 y27 z27 st27 hQ27
  subst l27 y27 z27
  obtain ⟨rfl, Nq27, Kq27, q28, q29, q30, q31, q32, q33, q34, q35, q36, q37, q38⟩ := hQ27
  have N27 := Fr.app N0 Nq27
  have K39 := K14.trans Kq27 (allS (Or.inr sz12) all0)
  have O40 := O15.keep Kq27 (allS g13 all0)
  refine Go.by st27 ?_
  show Go _ _ _ _ _ _ _ (T27.setTop (mkF m 14 _ [(.ref b10)]))
  refine Go.ret X27 (v := some (.ref b10)) (fun h => by rw [hret] at h; cases h) hlk (fun fs hr => retR X27 hx hret rfl rfl (hb hby d6_14) hr) ?_ (by decide) (by decide)
  show Q6_n Z pm_ wt wr h0 n0 _ T27.heap _
  exact ⟨b10, rfl, N27, K39, sz12, q28, q29, q30, q31, q32, q33, q34, q35, q36, q37, q38⟩
theorem ef7_r (m : MethodId) (x0 : Addr) (x1 : Addr) (x2 : Addr) (x3 : Addr) : entryFrame m #[(.ref x0), (.ref x1), (.ref x2), (.ref x3), .null, .null] 6 = mkF m 0 #[.val (.ref x0), .val (.ref x1), .val (.ref x2), .val (.ref x3), .val .null, .val .null] [] := by first | (simp [entryFrame, mkF, argsToLocals, Value.category]; done) | rfl
def Q7_r (Z : State) (a0_ : Addr) (x_ : Addr) (pm_ : Addr) (tm_ : Addr) (h0 : Heap) (n0 : Nat) (v : Option Value) (h : Heap) (L : List Loc) : Prop := v = none ∧ Fr n0 L ∧ Keep h0 h [a0_] ∧ Exa Z h a0_ "com/example/graphweave/graphweave/jsonld/ActiveContext" ∧ Fld Z h a0_ "com/example/graphweave/graphweave/jsonld/ActiveContext" "originalBaseUrl" "Ljava/lang/String;" (.ref x_) ∧ Fld Z h a0_ "com/example/graphweave/graphweave/jsonld/ActiveContext" "processingMode" "Lcom/example/graphweave/graphweave/jsonld/ProcessingMode;" (.ref pm_) ∧ Fld Z h a0_ "com/example/graphweave/graphweave/jsonld/ActiveContext" "baseIri" "Ljava/lang/String;" (.ref x_) ∧ Fld Z h a0_ "com/example/graphweave/graphweave/jsonld/ActiveContext" "terms" "Lcom/example/graphweave/graphweave/jsonld/TermMap;" (.ref tm_) ∧ Fld Z h a0_ "com/example/graphweave/graphweave/jsonld/ActiveContext" "processed" "Lcom/example/graphweave/graphweave/jsonld/ActiveContext;" (.ref a0_) ∧ Fld Z h a0_ "com/example/graphweave/graphweave/jsonld/ActiveContext" "placement" "Lcom/example/graphweave/graphweave/jsonld/Location$Placement;" .null ∧ Fld Z h a0_ "com/example/graphweave/graphweave/jsonld/ActiveContext" "vocab" "Ljava/lang/String;" .null ∧ Fld Z h a0_ "com/example/graphweave/graphweave/jsonld/ActiveContext" "defaultLanguage" "Ljava/lang/String;" .null ∧ Fld Z h a0_ "com/example/graphweave/graphweave/jsonld/ActiveContext" "defaultDirection" "Ljava/lang/String;" .null ∧ Fld Z h a0_ "com/example/graphweave/graphweave/jsonld/ActiveContext" "previousContext" "Lcom/example/graphweave/graphweave/jsonld/ActiveContext;" .null
theorem rm7_r (l : Launch) (Z : State) (a0 : Array Value) (hw : ∀ d ∈ tables_1, d.before a0 Z = true) (ws : List Jvm.Cond) (a0_ : Addr) (x_ : Addr) (pm_ : Addr) (tm_ : Addr) (h0 : Heap) (n0 : Nat) (Z0 : n0 ≤ h0.size) (O0 : Old Z n0 h0) (g0 : n0 ≤ a0_) (E_ac : Exa Z h0 a0_ "com/example/graphweave/graphweave/jsonld/ActiveContext") (F_originalBaseUrl : Fld Z h0 a0_ "com/example/graphweave/graphweave/jsonld/ActiveContext" "originalBaseUrl" "Ljava/lang/String;" .null) (F_processingMode : Fld Z h0 a0_ "com/example/graphweave/graphweave/jsonld/ActiveContext" "processingMode" "Lcom/example/graphweave/graphweave/jsonld/ProcessingMode;" .null) (F_baseIri : Fld Z h0 a0_ "com/example/graphweave/graphweave/jsonld/ActiveContext" "baseIri" "Ljava/lang/String;" .null) (F_terms : Fld Z h0 a0_ "com/example/graphweave/graphweave/jsonld/ActiveContext" "terms" "Lcom/example/graphweave/graphweave/jsonld/TermMap;" .null) (F_processed : Fld Z h0 a0_ "com/example/graphweave/graphweave/jsonld/ActiveContext" "processed" "Lcom/example/graphweave/graphweave/jsonld/ActiveContext;" .null) (F_placement : Fld Z h0 a0_ "com/example/graphweave/graphweave/jsonld/ActiveContext" "placement" "Lcom/example/graphweave/graphweave/jsonld/Location$Placement;" .null) (F_vocab : Fld Z h0 a0_ "com/example/graphweave/graphweave/jsonld/ActiveContext" "vocab" "Ljava/lang/String;" .null) (F_defaultLanguage : Fld Z h0 a0_ "com/example/graphweave/graphweave/jsonld/ActiveContext" "defaultLanguage" "Ljava/lang/String;" .null) (F_defaultDirection : Fld Z h0 a0_ "com/example/graphweave/graphweave/jsonld/ActiveContext" "defaultDirection" "Ljava/lang/String;" .null) (F_previousContext : Fld Z h0 a0_ "com/example/graphweave/graphweave/jsonld/ActiveContext" "previousContext" "Lcom/example/graphweave/graphweave/jsonld/ActiveContext;" .null) :
    Met l Z ws (⟨"com/example/graphweave/graphweave/jsonld/ActiveContext", "<init>", "(Ljava/lang/String;Lcom/example/graphweave/graphweave/jsonld/ProcessingMode;Lcom/example/graphweave/graphweave/jsonld/TermMap;Lcom/example/graphweave/graphweave/jsonld/ActiveContext;Lcom/example/graphweave/graphweave/jsonld/Location$Placement;)V"⟩ : MethodName) prog_28_method_1_code 6 none (Rm 1 0 0 12) #[(.ref a0_), (.ref x_), (.ref pm_), (.ref tm_), .null, .null] h0 (Q7_r Z a0_ x_ pm_ tm_ h0 n0) := by
  refine Met.enter (L0 := #[.val (.ref a0_), .val (.ref x_), .val (.ref pm_), .val (.ref tm_), .val .null, .val .null]) (plainFor_of_name pn226) (fun m => ef7_r m a0_ x_ pm_ tm_) ?_
  intro p e s m below meth c s₁ hx hby hml hown hnm hret hlk hZ X0 e0
  have N0 := Fr.nil n0
  have K0 : Keep h0 h0 [a0_] := Keep.refl h0 _
  refine Go.st (t' := s₁.setTop (mkF m 1 #[.val (.ref a0_), .val (.ref x_), .val (.ref pm_), .val (.ref tm_), .val .null, .val .null] [(.ref a0_)])) (fun target kt => ?_) ?_
  · refine XS.aloadN X0.here hx rfl (hb hby d7_0) rfl rfl ?_
    exact kt
  obtain ⟨T10, X10, e10, st10⟩ := initO X0 hx hZ hown (hw _ tw41) (hw _ tw23) (hw _ tw24) e0 (g := (mkF m 1 #[.val (.ref a0_), .val (.ref x_), .val (.ref pm_), .val (.ref tm_), .val .null, .val .null] [(.ref a0_)])) rfl (by rw [hml]; rfl) rfl (hb hby d7_1) (by decide) (W := 0) (by show 2 * 0 + _ ≤ _; exact Nat.le_of_eq rfl) (by decide)
  refine Go.st st10 ?_
  show Go _ _ _ _ _ _ _ (T10.setTop (mkF m 4 _ []))
  refine Go.st (t' := T10.setTop (mkF m 6 #[.val (.ref a0_), .val (.ref x_), .val (.ref pm_), .val (.ref tm_), .val .null, .val .null] [(.ref x_), (.ref a0_)])) (fun target kt => ?_) ?_
  · refine XS.aloadN X10.here hx rfl (hb hby d7_4) rfl rfl ?_
    refine XS.aloadN X10.here hx rfl (hb hby d7_5) rfl rfl ?_
    exact kt
  obtain ⟨T11, h11, X11, e11, W11, st11⟩ := putF X10 hx hZ hown (host := "") (Or.inl (hw _ tw42)) Via.refl e10 F_originalBaseUrl E_ac (Or.inr ⟨(hw _ tw43), rfl, hnm⟩) (hw _ tw34) (ty := (.object "java/lang/String")) (by decide) rfl rfl (g := (mkF m 6 #[.val (.ref a0_), .val (.ref x_), .val (.ref pm_), .val (.ref tm_), .val .null, .val .null] [(.ref x_), (.ref a0_)])) rfl rfl (hb hby d7_6)
  have F12 : Fld Z h11 a0_ "com/example/graphweave/graphweave/jsonld/ActiveContext" "originalBaseUrl" "Ljava/lang/String;" (.ref x_) := F_originalBaseUrl.same W11
  have K13 := K0.wr W11 (Or.inl (List.mem_of_getElem? (i := 0) rfl))
  have O14 := O0.wr W11 g0
  have N11 := Fr.snoc X11 N0 g0
  refine Go.st st11 ?_
  show Go _ _ _ _ _ _ _ (T11.setTop (mkF m 9 _ []))
  refine Go.st (t' := T11.setTop (mkF m 11 #[.val (.ref a0_), .val (.ref x_), .val (.ref pm_), .val (.ref tm_), .val .null, .val .null] [(.ref pm_), (.ref a0_)])) (fun target kt => ?_) ?_
  · refine XS.aloadN X11.here hx rfl (hb hby d7_9) rfl rfl ?_
    refine XS.aloadN X11.here hx rfl (hb hby d7_10) rfl rfl ?_
    exact kt
  have c15 := F_processingMode.other W11 (Or.inr (slot_ne (Or.inr (hw _ tw45)) (Or.inr (hw _ tw43)) (by decide) (t := (.object "com/example/graphweave/graphweave/jsonld/ProcessingMode")) (t' := (.object "java/lang/String")) (by decide) (by decide)))
  have c16 := E_ac.wr W11
  obtain ⟨T17, h17, X17, e17, W17, st17⟩ := putF X11 hx hZ hown (host := "") (Or.inl (hw _ tw44)) Via.refl e11 c15 c16 (Or.inr ⟨(hw _ tw45), rfl, hnm⟩) (hw _ tw34) (ty := (.object "com/example/graphweave/graphweave/jsonld/ProcessingMode")) (by decide) rfl rfl (g := (mkF m 11 #[.val (.ref a0_), .val (.ref x_), .val (.ref pm_), .val (.ref tm_), .val .null, .val .null] [(.ref pm_), (.ref a0_)])) rfl rfl (hb hby d7_11)
  have F18 : Fld Z h17 a0_ "com/example/graphweave/graphweave/jsonld/ActiveContext" "processingMode" "Lcom/example/graphweave/graphweave/jsonld/ProcessingMode;" (.ref pm_) := c15.same W17
  have K19 := K13.wr W17 (Or.inl (List.mem_of_getElem? (i := 0) rfl))
  have O20 := O14.wr W17 g0
  have N17 := Fr.snoc X17 N11 g0
  refine Go.st st17 ?_
  show Go _ _ _ _ _ _ _ (T17.setTop (mkF m 14 _ []))
  refine Go.st (t' := T17.setTop (mkF m 16 #[.val (.ref a0_), .val (.ref x_), .val (.ref pm_), .val (.ref tm_), .val .null, .val .null] [(.ref x_), (.ref a0_)])) (fun target kt => ?_) ?_
  · refine XS.aloadN X17.here hx rfl (hb hby d7_14) rfl rfl ?_
    refine XS.aloadN X17.here hx rfl (hb hby d7_15) rfl rfl ?_
    exact kt
  have c21 := (F_baseIri.other W11 (Or.inr (slot_ne (Or.inl (hw _ tw47)) (Or.inr (hw _ tw43)) (by decide) (t := (.object "java/lang/String")) (t' := (.object "java/lang/String")) (by decide) (by decide)))).other W17 (Or.inr (slot_ne (Or.inl (hw _ tw47)) (Or.inr (hw _ tw45)) (by decide) (t := (.object "java/lang/String")) (t' := (.object "com/example/graphweave/graphweave/jsonld/ProcessingMode")) (by decide) (by decide)))
  have c22 := c16.wr W17
  obtain ⟨T23, h23, X23, e23, W23, st23⟩ := putF X17 hx hZ hown (host := "") (Or.inl (hw _ tw46)) Via.refl e17 c21 c22 (Or.inl (hw _ tw47)) (hw _ tw34) (ty := (.object "java/lang/String")) (by decide) rfl rfl (g := (mkF m 16 #[.val (.ref a0_), .val (.ref x_), .val (.ref pm_), .val (.ref tm_), .val .null, .val .null] [(.ref x_), (.ref a0_)])) rfl rfl (hb hby d7_16)
  have F24 : Fld Z h23 a0_ "com/example/graphweave/graphweave/jsonld/ActiveContext" "baseIri" "Ljava/lang/String;" (.ref x_) := c21.same W23
  have K25 := K19.wr W23 (Or.inl (List.mem_of_getElem? (i := 0) rfl))
  have O26 := O20.wr W23 g0
  have N23 := Fr.snoc X23 N17 g0
  refine Go.st st23 ?_
  show Go _ _ _ _ _ _ _ (T23.setTop (mkF m 19 _ []))
  refine Go.st (t' := T23.setTop (mkF m 21 #[.val (.ref a0_), .val (.ref x_), .val (.ref pm_), .val (.ref tm_), .val .null, .val .null] [(.ref tm_), (.ref a0_)])) (fun target kt => ?_) ?_
  · refine XS.aloadN X23.here hx rfl (hb hby d7_19) rfl rfl ?_
    refine XS.aloadN X23.here hx rfl (hb hby d7_20) rfl rfl ?_
    exact kt
  have c27 := ((F_terms.other W11 (Or.inr (slot_ne (Or.inl (hw _ tw49)) (Or.inr (hw _ tw43)) (by decide) (t := (.object "com/example/graphweave/graphweave/jsonld/TermMap")) (t' := (.object "java/lang/String")) (by decide) (by decide)))).other W17 (Or.inr (slot_ne (Or.inl (hw _ tw49)) (Or.inr (hw _ tw45)) (by decide) (t := (.object "com/example/graphweave/graphweave/jsonld/TermMap")) (t' := (.object "com/example/graphweave/graphweave/jsonld/ProcessingMode")) (by decide) (by decide)))).other W23 (Or.inr (slot_ne (Or.inl (hw _ tw49)) (Or.inl (hw _ tw47)) (by decide) (t := (.object "com/example/graphweave/graphweave/jsonld/TermMap")) (t' := (.object "java/lang/String")) (by decide) (by decide)))
  have c28 := c22.wr W23
  obtain ⟨T29, h29, X29, e29, W29, st29⟩ := putF X23 hx hZ hown (host := "") (Or.inl (hw _ tw48)) Via.refl e23 c27 c28 (Or.inl (hw _ tw49)) (hw _ tw34) (ty := (.object "com/example/graphweave/graphweave/jsonld/TermMap")) (by decide) rfl rfl (g := (mkF m 21 #[.val (.ref a0_), .val (.ref x_), .val (.ref pm_), .val (.ref tm_), .val .null, .val .null] [(.ref tm_), (.ref a0_)])) rfl rfl (hb hby d7_21)
  have F30 : Fld Z h29 a0_ "com/example/graphweave/graphweave/jsonld/ActiveContext" "terms" "Lcom/example/graphweave/graphweave/jsonld/TermMap;" (.ref tm_) := c27.same W29
  have K31 := K25.wr W29 (Or.inl (List.mem_of_getElem? (i := 0) rfl))
  have O32 := O26.wr W29 g0
  have N29 := Fr.snoc X29 N23 g0
  refine Go.st st29 ?_
  show Go _ _ _ _ _ _ _ (T29.setTop (mkF m 24 _ []))
  refine Go.st (t' := T29.setTop (mkF m 36 #[.val (.ref a0_), .val (.ref x_), .val (.ref pm_), .val (.ref tm_), .val .null, .val .null] [(.ref a0_), (.ref a0_)])) (fun target kt => ?_) ?_
  · refine XS.aloadN X29.here hx rfl (hb hby d7_24) rfl rfl ?_
    refine XS.aload X29.here hx rfl (hb hby d7_25) rfl rfl ?_
    refine XS.ifnonnullNo X29.here hx rfl (hb hby d7_27) rfl ?_
    refine XS.aloadN X29.here hx rfl (hb hby d7_30) rfl rfl ?_
    refine XS.goto X29.here hx rfl (pc0 := 31) (pc' := 36) rfl (hb hby d7_31) (by decide) (by decide) ?_
    exact kt
  have c33 := (((F_processed.other W11 (Or.inr (slot_ne (Or.inr (hw _ tw51)) (Or.inr (hw _ tw43)) (by decide) (t := (.object "com/example/graphweave/graphweave/jsonld/ActiveContext")) (t' := (.object "java/lang/String")) (by decide) (by decide)))).other W17 (Or.inr (slot_ne (Or.inr (hw _ tw51)) (Or.inr (hw _ tw45)) (by decide) (t := (.object "com/example/graphweave/graphweave/jsonld/ActiveContext")) (t' := (.object "com/example/graphweave/graphweave/jsonld/ProcessingMode")) (by decide) (by decide)))).other W23 (Or.inr (slot_ne (Or.inr (hw _ tw51)) (Or.inl (hw _ tw47)) (by decide) (t := (.object "com/example/graphweave/graphweave/jsonld/ActiveContext")) (t' := (.object "java/lang/String")) (by decide) (by decide)))).other W29 (Or.inr (slot_ne (Or.inr (hw _ tw51)) (Or.inl (hw _ tw49)) (by decide) (t := (.object "com/example/graphweave/graphweave/jsonld/ActiveContext")) (t' := (.object "com/example/graphweave/graphweave/jsonld/TermMap")) (by decide) (by decide)))
  have c34 := c28.wr W29
  obtain ⟨T35, h35, X35, e35, W35, st35⟩ := putF X29 hx hZ hown (host := "") (Or.inl (hw _ tw50)) Via.refl e29 c33 c34 (Or.inr ⟨(hw _ tw51), rfl, hnm⟩) (hw _ tw34) (ty := (.object "com/example/graphweave/graphweave/jsonld/ActiveContext")) (by decide) rfl rfl (g := (mkF m 36 #[.val (.ref a0_), .val (.ref x_), .val (.ref pm_), .val (.ref tm_), .val .null, .val .null] [(.ref a0_), (.ref a0_)])) rfl rfl (hb hby d7_36)
  have F36 : Fld Z h35 a0_ "com/example/graphweave/graphweave/jsonld/ActiveContext" "processed" "Lcom/example/graphweave/graphweave/jsonld/ActiveContext;" (.ref a0_) := c33.same W35
  have K37 := K31.wr W35 (Or.inl (List.mem_of_getElem? (i := 0) rfl))
  have O38 := O32.wr W35 g0
  have N35 := Fr.snoc X35 N29 g0
  refine Go.st st35 ?_
  show Go _ _ _ _ _ _ _ (T35.setTop (mkF m 39 _ []))
  refine Go.st (t' := T35.setTop (mkF m 42 #[.val (.ref a0_), .val (.ref x_), .val (.ref pm_), .val (.ref tm_), .val .null, .val .null] [.null, (.ref a0_)])) (fun target kt => ?_) ?_
  · refine XS.aloadN X35.here hx rfl (hb hby d7_39) rfl rfl ?_
    refine XS.aload X35.here hx rfl (hb hby d7_40) rfl rfl ?_
    exact kt
  have c39 := ((((F_placement.other W11 (Or.inr (slot_ne (Or.inr (hw _ tw53)) (Or.inr (hw _ tw43)) (by decide) (t := (.object "com/example/graphweave/graphweave/jsonld/Location$Placement")) (t' := (.object "java/lang/String")) (by decide) (by decide)))).other W17 (Or.inr (slot_ne (Or.inr (hw _ tw53)) (Or.inr (hw _ tw45)) (by decide) (t := (.object "com/example/graphweave/graphweave/jsonld/Location$Placement")) (t' := (.object "com/example/graphweave/graphweave/jsonld/ProcessingMode")) (by decide) (by decide)))).other W23 (Or.inr (slot_ne (Or.inr (hw _ tw53)) (Or.inl (hw _ tw47)) (by decide) (t := (.object "com/example/graphweave/graphweave/jsonld/Location$Placement")) (t' := (.object "java/lang/String")) (by decide) (by decide)))).other W29 (Or.inr (slot_ne (Or.inr (hw _ tw53)) (Or.inl (hw _ tw49)) (by decide) (t := (.object "com/example/graphweave/graphweave/jsonld/Location$Placement")) (t' := (.object "com/example/graphweave/graphweave/jsonld/TermMap")) (by decide) (by decide)))).other W35 (Or.inr (slot_ne (Or.inr (hw _ tw53)) (Or.inr (hw _ tw51)) (by decide) (t := (.object "com/example/graphweave/graphweave/jsonld/Location$Placement")) (t' := (.object "com/example/graphweave/graphweave/jsonld/ActiveContext")) (by decide) (by decide)))
  have c40 := c34.wr W35
  obtain ⟨T41, h41, X41, e41, W41, st41⟩ := putF X35 hx hZ hown (host := "") (Or.inl (hw _ tw52)) Via.refl e35 c39 c40 (Or.inr ⟨(hw _ tw53), rfl, hnm⟩) (hw _ tw34) (ty := (.object "com/example/graphweave/graphweave/jsonld/Location$Placement")) (by decide) rfl rfl (g := (mkF m 42 #[.val (.ref a0_), .val (.ref x_), .val (.ref pm_), .val (.ref tm_), .val .null, .val .null] [.null, (.ref a0_)])) rfl rfl (hb hby d7_42)
  have F42 : Fld Z h41 a0_ "com/example/graphweave/graphweave/jsonld/ActiveContext" "placement" "Lcom/example/graphweave/graphweave/jsonld/Location$Placement;" .null := c39.same W41
  have K43 := K37.wr W41 (Or.inl (List.mem_of_getElem? (i := 0) rfl))
  have O44 := O38.wr W41 g0
  have N41 := Fr.snoc X41 N35 g0
  refine Go.st st41 ?_
  show Go _ _ _ _ _ _ _ (T41.setTop (mkF m 45 _ []))
  have c45 := c40.wr W41
  have c46 := ((((F12.other W17 (Or.inr (slot_ne (Or.inr (hw _ tw43)) (Or.inr (hw _ tw45)) (by decide) (t := (.object "java/lang/String")) (t' := (.object "com/example/graphweave/graphweave/jsonld/ProcessingMode")) (by decide) (by decide)))).other W23 (Or.inr (slot_ne (Or.inr (hw _ tw43)) (Or.inl (hw _ tw47)) (by decide) (t := (.object "java/lang/String")) (t' := (.object "java/lang/String")) (by decide) (by decide)))).other W29 (Or.inr (slot_ne (Or.inr (hw _ tw43)) (Or.inl (hw _ tw49)) (by decide) (t := (.object "java/lang/String")) (t' := (.object "com/example/graphweave/graphweave/jsonld/TermMap")) (by decide) (by decide)))).other W35 (Or.inr (slot_ne (Or.inr (hw _ tw43)) (Or.inr (hw _ tw51)) (by decide) (t := (.object "java/lang/String")) (t' := (.object "com/example/graphweave/graphweave/jsonld/ActiveContext")) (by decide) (by decide)))).other W41 (Or.inr (slot_ne (Or.inr (hw _ tw43)) (Or.inr (hw _ tw53)) (by decide) (t := (.object "java/lang/String")) (t' := (.object "com/example/graphweave/graphweave/jsonld/Location$Placement")) (by decide) (by decide)))
  have c47 := (((F18.other W23 (Or.inr (slot_ne (Or.inr (hw _ tw45)) (Or.inl (hw _ tw47)) (by decide) (t := (.object "com/example/graphweave/graphweave/jsonld/ProcessingMode")) (t' := (.object "java/lang/String")) (by decide) (by decide)))).other W29 (Or.inr (slot_ne (Or.inr (hw _ tw45)) (Or.inl (hw _ tw49)) (by decide) (t := (.object "com/example/graphweave/graphweave/jsonld/ProcessingMode")) (t' := (.object "com/example/graphweave/graphweave/jsonld/TermMap")) (by decide) (by decide)))).other W35 (Or.inr (slot_ne (Or.inr (hw _ tw45)) (Or.inr (hw _ tw51)) (by decide) (t := (.object "com/example/graphweave/graphweave/jsonld/ProcessingMode")) (t' := (.object "com/example/graphweave/graphweave/jsonld/ActiveContext")) (by decide) (by decide)))).other W41 (Or.inr (slot_ne (Or.inr (hw _ tw45)) (Or.inr (hw _ tw53)) (by decide) (t := (.object "com/example/graphweave/graphweave/jsonld/ProcessingMode")) (t' := (.object "com/example/graphweave/graphweave/jsonld/Location$Placement")) (by decide) (by decide)))
  have c48 := ((F24.other W29 (Or.inr (slot_ne (Or.inl (hw _ tw47)) (Or.inl (hw _ tw49)) (by decide) (t := (.object "java/lang/String")) (t' := (.object "com/example/graphweave/graphweave/jsonld/TermMap")) (by decide) (by decide)))).other W35 (Or.inr (slot_ne (Or.inl (hw _ tw47)) (Or.inr (hw _ tw51)) (by decide) (t := (.object "java/lang/String")) (t' := (.object "com/example/graphweave/graphweave/jsonld/ActiveContext")) (by decide) (by decide)))).other W41 (Or.inr (slot_ne (Or.inl (hw _ tw47)) (Or.inr (hw _ tw53)) (by decide) (t := (.object "java/lang/String")) (t' := (.object "com/example/graphweave/graphweave/jsonld/Location$Placement")) (by decide) (by decide)))
  have c49 := (F30.other W35 (Or.inr (slot_ne (Or.inl (hw _ tw49)) (Or.inr (hw _ tw51)) (by decide) (t := (.object "com/example/graphweave/graphweave/jsonld/TermMap")) (t' := (.object "com/example/graphweave/graphweave/jsonld/ActiveContext")) (by decide) (by decide)))).other W41 (Or.inr (slot_ne (Or.inl (hw _ tw49)) (Or.inr (hw _ tw53)) (by decide) (t := (.object "com/example/graphweave/graphweave/jsonld/TermMap")) (t' := (.object "com/example/graphweave/graphweave/jsonld/Location$Placement")) (by decide) (by decide)))
  have c50 := F36.other W41 (Or.inr (slot_ne (Or.inr (hw _ tw51)) (Or.inr (hw _ tw53)) (by decide) (t := (.object "com/example/graphweave/graphweave/jsonld/ActiveContext")) (t' := (.object "com/example/graphweave/graphweave/jsonld/Location$Placement")) (by decide) (by decide)))
  have c51 := (((((F_vocab.other W11 (Or.inr (slot_ne (Or.inl (hw _ tw68)) (Or.inr (hw _ tw43)) (by decide) (t := (.object "java/lang/String")) (t' := (.object "java/lang/String")) (by decide) (by decide)))).other W17 (Or.inr (slot_ne (Or.inl (hw _ tw68)) (Or.inr (hw _ tw45)) (by decide) (t := (.object "java/lang/String")) (t' := (.object "com/example/graphweave/graphweave/jsonld/ProcessingMode")) (by decide) (by decide)))).other W23 (Or.inr (slot_ne (Or.inl (hw _ tw68)) (Or.inl (hw _ tw47)) (by decide) (t := (.object "java/lang/String")) (t' := (.object "java/lang/String")) (by decide) (by decide)))).other W29 (Or.inr (slot_ne (Or.inl (hw _ tw68)) (Or.inl (hw _ tw49)) (by decide) (t := (.object "java/lang/String")) (t' := (.object "com/example/graphweave/graphweave/jsonld/TermMap")) (by decide) (by decide)))).other W35 (Or.inr (slot_ne (Or.inl (hw _ tw68)) (Or.inr (hw _ tw51)) (by decide) (t := (.object "java/lang/String")) (t' := (.object "com/example/graphweave/graphweave/jsonld/ActiveContext")) (by decide) (by decide)))).other W41 (Or.inr (slot_ne (Or.inl (hw _ tw68)) (Or.inr (hw _ tw53)) (by decide) (t := (.object "java/lang/String")) (t' := (.object "com/example/graphweave/graphweave/jsonld/Location$Placement")) (by decide) (by decide)))
  have c52 := (((((F_defaultLanguage.other W11 (Or.inr (slot_ne (Or.inl (hw _ tw70)) (Or.inr (hw _ tw43)) (by decide) (t := (.object "java/lang/String")) (t' := (.object "java/lang/String")) (by decide) (by decide)))).other W17 (Or.inr (slot_ne (Or.inl (hw _ tw70)) (Or.inr (hw _ tw45)) (by decide) (t := (.object "java/lang/String")) (t' := (.object "com/example/graphweave/graphweave/jsonld/ProcessingMode")) (by decide) (by decide)))).other W23 (Or.inr (slot_ne (Or.inl (hw _ tw70)) (Or.inl (hw _ tw47)) (by decide) (t := (.object "java/lang/String")) (t' := (.object "java/lang/String")) (by decide) (by decide)))).other W29 (Or.inr (slot_ne (Or.inl (hw _ tw70)) (Or.inl (hw _ tw49)) (by decide) (t := (.object "java/lang/String")) (t' := (.object "com/example/graphweave/graphweave/jsonld/TermMap")) (by decide) (by decide)))).other W35 (Or.inr (slot_ne (Or.inl (hw _ tw70)) (Or.inr (hw _ tw51)) (by decide) (t := (.object "java/lang/String")) (t' := (.object "com/example/graphweave/graphweave/jsonld/ActiveContext")) (by decide) (by decide)))).other W41 (Or.inr (slot_ne (Or.inl (hw _ tw70)) (Or.inr (hw _ tw53)) (by decide) (t := (.object "java/lang/String")) (t' := (.object "com/example/graphweave/graphweave/jsonld/Location$Placement")) (by decide) (by decide)))
  have c53 := (((((F_defaultDirection.other W11 (Or.inr (slot_ne (Or.inl (hw _ tw72)) (Or.inr (hw _ tw43)) (by decide) (t := (.object "java/lang/String")) (t' := (.object "java/lang/String")) (by decide) (by decide)))).other W17 (Or.inr (slot_ne (Or.inl (hw _ tw72)) (Or.inr (hw _ tw45)) (by decide) (t := (.object "java/lang/String")) (t' := (.object "com/example/graphweave/graphweave/jsonld/ProcessingMode")) (by decide) (by decide)))).other W23 (Or.inr (slot_ne (Or.inl (hw _ tw72)) (Or.inl (hw _ tw47)) (by decide) (t := (.object "java/lang/String")) (t' := (.object "java/lang/String")) (by decide) (by decide)))).other W29 (Or.inr (slot_ne (Or.inl (hw _ tw72)) (Or.inl (hw _ tw49)) (by decide) (t := (.object "java/lang/String")) (t' := (.object "com/example/graphweave/graphweave/jsonld/TermMap")) (by decide) (by decide)))).other W35 (Or.inr (slot_ne (Or.inl (hw _ tw72)) (Or.inr (hw _ tw51)) (by decide) (t := (.object "java/lang/String")) (t' := (.object "com/example/graphweave/graphweave/jsonld/ActiveContext")) (by decide) (by decide)))).other W41 (Or.inr (slot_ne (Or.inl (hw _ tw72)) (Or.inr (hw _ tw53)) (by decide) (t := (.object "java/lang/String")) (t' := (.object "com/example/graphweave/graphweave/jsonld/Location$Placement")) (by decide) (by decide)))
  have c54 := (((((F_previousContext.other W11 (Or.inr (slot_ne (Or.inl (hw _ tw74)) (Or.inr (hw _ tw43)) (by decide) (t := (.object "com/example/graphweave/graphweave/jsonld/ActiveContext")) (t' := (.object "java/lang/String")) (by decide) (by decide)))).other W17 (Or.inr (slot_ne (Or.inl (hw _ tw74)) (Or.inr (hw _ tw45)) (by decide) (t := (.object "com/example/graphweave/graphweave/jsonld/ActiveContext")) (t' := (.object "com/example/graphweave/graphweave/jsonld/ProcessingMode")) (by decide) (by decide)))).other W23 (Or.inr (slot_ne (Or.inl (hw _ tw74)) (Or.inl (hw _ tw47)) (by decide) (t := (.object "com/example/graphweave/graphweave/jsonld/ActiveContext")) (t' := (.object "java/lang/String")) (by decide) (by decide)))).other W29 (Or.inr (slot_ne (Or.inl (hw _ tw74)) (Or.inl (hw _ tw49)) (by decide) (t := (.object "com/example/graphweave/graphweave/jsonld/ActiveContext")) (t' := (.object "com/example/graphweave/graphweave/jsonld/TermMap")) (by decide) (by decide)))).other W35 (Or.inr (slot_ne (Or.inl (hw _ tw74)) (Or.inr (hw _ tw51)) (by decide) (t := (.object "com/example/graphweave/graphweave/jsonld/ActiveContext")) (t' := (.object "com/example/graphweave/graphweave/jsonld/ActiveContext")) (by decide) (by decide)))).other W41 (Or.inr (slot_ne (Or.inl (hw _ tw74)) (Or.inr (hw _ tw53)) (by decide) (t := (.object "com/example/graphweave/graphweave/jsonld/ActiveContext")) (t' := (.object "com/example/graphweave/graphweave/jsonld/Location$Placement")) (by decide) (by decide)))
  refine Go.ret X41 (v := none) (fun _ => rfl) hlk (fun fs hr => X41.returnOut hx hret (hb hby d7_45) hr) ?_ (by decide) (by decide)
  show Q7_r Z a0_ x_ pm_ tm_ h0 n0 _ T41.heap _
  rw [e41]
  exact ⟨rfl, N41, K43, c45, c46, c47, c48, c49, c50, F42, c51, c52, c53, c54⟩
theorem ef6_r (m : MethodId) (x0 : Addr) (x1 : Addr) : entryFrame m #[(.ref x0), (.ref x1)] 2 = mkF m 0 #[.val (.ref x0), .val (.ref x1)] [] := by first | (simp [entryFrame, mkF, argsToLocals, Value.category]; done) | rfl
def Q6_r (Z : State) (x_ : Addr) (pm_ : Addr) (wt : Addr) (wr : Addr) (h0 : Heap) (n0 : Nat) (v : Option Value) (h : Heap) (L : List Loc) : Prop := ∃ (b : Addr), v = some (.ref b) ∧ Fr n0 L ∧ Keep h0 h [] ∧ h0.size ≤ b ∧ Exa Z h b "com/example/graphweave/graphweave/jsonld/ActiveContext" ∧ Fld Z h b "com/example/graphweave/graphweave/jsonld/ActiveContext" "originalBaseUrl" "Ljava/lang/String;" (.ref x_) ∧ Fld Z h b "com/example/graphweave/graphweave/jsonld/ActiveContext" "processingMode" "Lcom/example/graphweave/graphweave/jsonld/ProcessingMode;" (.ref pm_) ∧ Fld Z h b "com/example/graphweave/graphweave/jsonld/ActiveContext" "baseIri" "Ljava/lang/String;" (.ref x_) ∧ Fld Z h b "com/example/graphweave/graphweave/jsonld/ActiveContext" "terms" "Lcom/example/graphweave/graphweave/jsonld/TermMap;" (.ref wt) ∧ Fld Z h b "com/example/graphweave/graphweave/jsonld/ActiveContext" "processed" "Lcom/example/graphweave/graphweave/jsonld/ActiveContext;" (.ref b) ∧ Fld Z h b "com/example/graphweave/graphweave/jsonld/ActiveContext" "placement" "Lcom/example/graphweave/graphweave/jsonld/Location$Placement;" .null ∧ Fld Z h b "com/example/graphweave/graphweave/jsonld/ActiveContext" "vocab" "Ljava/lang/String;" .null ∧ Fld Z h b "com/example/graphweave/graphweave/jsonld/ActiveContext" "defaultLanguage" "Ljava/lang/String;" .null ∧ Fld Z h b "com/example/graphweave/graphweave/jsonld/ActiveContext" "defaultDirection" "Ljava/lang/String;" .null ∧ Fld Z h b "com/example/graphweave/graphweave/jsonld/ActiveContext" "previousContext" "Lcom/example/graphweave/graphweave/jsonld/ActiveContext;" .null
theorem rm6_r (l : Launch) (Z : State) (a0 : Array Value) (hw : ∀ d ∈ tables_1, d.before a0 Z = true) (ws : List Jvm.Cond) (x_ : Addr) (pm_ : Addr) (wt : Addr) (wr : Addr) (h0 : Heap) (n0 : Nat) (Z0 : n0 ≤ h0.size) (O0 : Old Z n0 h0) (S_EM : Sta Z Z.heap "com/example/graphweave/graphweave/jsonld/TermMap" "EMPTY" "Lcom/example/graphweave/graphweave/jsonld/TermMap;" (.ref wt)) :
    Met l Z ws (⟨"com/example/graphweave/graphweave/jsonld/ActiveContext", "initial", "(Ljava/lang/String;Lcom/example/graphweave/graphweave/jsonld/ProcessingMode;)Lcom/example/graphweave/graphweave/jsonld/ActiveContext;"⟩ : MethodName) prog_28_method_2_code 2 (some (.object "com/example/graphweave/graphweave/jsonld/ActiveContext")) (Rm 2 1 10 30) #[(.ref x_), (.ref pm_)] h0 (Q6_r Z x_ pm_ wt wr h0 n0) := by
  refine Met.enter (L0 := #[.val (.ref x_), .val (.ref pm_)]) (plainFor_of_name pn226) (fun m => ef6_r m x_ pm_) ?_
  intro p e s m below meth c s₁ hx hby hml hown hnm hret hlk hZ X0 e0
  have N0 := Fr.nil n0
  have K0 : Keep h0 h0 [] := Keep.refl h0 _
  obtain ⟨T10, h10, X10, e10, E10, A10, D10, -, st10⟩ := newO X0 hx hZ hown (hw _ tw33) (hw _ tw34) (hw _ tw31) e0 (g := (mkF m 0 #[.val (.ref x_), .val (.ref pm_)] [])) rfl (hb hby d6_0) (by decide) (by decide)
  obtain ⟨b10, g10⟩ : ∃ z, z = h0.size := ⟨_, rfl⟩
  rw [← g10] at A10 D10 st10
  have lb11 : h0.size ≤ b10 := Nat.le_of_eq g10.symm
  have sz12 : h0.size ≤ b10 := Nat.le_trans K0.1 lb11
  have g13 : n0 ≤ b10 := Nat.le_trans Z0 sz12
  have K14 := K0.ext E10
  have O15 := O0.ext E10
  have F16 : Fld Z h10 b10 "com/example/graphweave/graphweave/jsonld/ActiveContext" "originalBaseUrl" "Ljava/lang/String;" .null := D10 (Or.inr (hw _ tw43)) (ty := (.object "java/lang/String")) (by decide)
  have F17 : Fld Z h10 b10 "com/example/graphweave/graphweave/jsonld/ActiveContext" "processingMode" "Lcom/example/graphweave/graphweave/jsonld/ProcessingMode;" .null := D10 (Or.inr (hw _ tw45)) (ty := (.object "com/example/graphweave/graphweave/jsonld/ProcessingMode")) (by decide)
  have F18 : Fld Z h10 b10 "com/example/graphweave/graphweave/jsonld/ActiveContext" "baseIri" "Ljava/lang/String;" .null := D10 (Or.inl (hw _ tw47)) (ty := (.object "java/lang/String")) (by decide)
  have F19 : Fld Z h10 b10 "com/example/graphweave/graphweave/jsonld/ActiveContext" "terms" "Lcom/example/graphweave/graphweave/jsonld/TermMap;" .null := D10 (Or.inl (hw _ tw49)) (ty := (.object "com/example/graphweave/graphweave/jsonld/TermMap")) (by decide)
  have F20 : Fld Z h10 b10 "com/example/graphweave/graphweave/jsonld/ActiveContext" "processed" "Lcom/example/graphweave/graphweave/jsonld/ActiveContext;" .null := D10 (Or.inr (hw _ tw51)) (ty := (.object "com/example/graphweave/graphweave/jsonld/ActiveContext")) (by decide)
  have F21 : Fld Z h10 b10 "com/example/graphweave/graphweave/jsonld/ActiveContext" "placement" "Lcom/example/graphweave/graphweave/jsonld/Location$Placement;" .null := D10 (Or.inr (hw _ tw53)) (ty := (.object "com/example/graphweave/graphweave/jsonld/Location$Placement")) (by decide)
  have F22 : Fld Z h10 b10 "com/example/graphweave/graphweave/jsonld/ActiveContext" "vocab" "Ljava/lang/String;" .null := D10 (Or.inl (hw _ tw68)) (ty := (.object "java/lang/String")) (by decide)
  have F23 : Fld Z h10 b10 "com/example/graphweave/graphweave/jsonld/ActiveContext" "defaultLanguage" "Ljava/lang/String;" .null := D10 (Or.inl (hw _ tw70)) (ty := (.object "java/lang/String")) (by decide)
  have F24 : Fld Z h10 b10 "com/example/graphweave/graphweave/jsonld/ActiveContext" "defaultDirection" "Ljava/lang/String;" .null := D10 (Or.inl (hw _ tw72)) (ty := (.object "java/lang/String")) (by decide)
  have F25 : Fld Z h10 b10 "com/example/graphweave/graphweave/jsonld/ActiveContext" "previousContext" "Lcom/example/graphweave/graphweave/jsonld/ActiveContext;" .null := D10 (Or.inl (hw _ tw74)) (ty := (.object "com/example/graphweave/graphweave/jsonld/ActiveContext")) (by decide)
  refine Go.st st10 ?_
  show Go _ _ _ _ _ _ _ (T10.setTop (mkF m 3 _ [(.ref b10)]))
  refine Go.st (t' := T10.setTop (mkF m 6 #[.val (.ref x_), .val (.ref pm_)] [(.ref pm_), (.ref x_), (.ref b10), (.ref b10)])) (fun target kt => ?_) ?_
  · refine XS.dup X10.here hx rfl (hb hby d6_3) rfl rfl ?_
    refine XS.aloadN X10.here hx rfl (hb hby d6_4) rfl rfl ?_
    refine XS.aloadN X10.here hx rfl (hb hby d6_5) rfl rfl ?_
    exact kt
  obtain ⟨T26, X26, e26, st26⟩ := getS2 X10 hx hZ hown (host := "") (Or.inl (hw _ tw35)) Via.refl e10 (S_EM.ext O15.2) (g := (mkF m 6 #[.val (.ref x_), .val (.ref pm_)] [(.ref pm_), (.ref x_), (.ref b10), (.ref b10)])) rfl (hb hby d6_6)
  refine Go.st st26 ?_
  show Go _ _ _ _ _ _ _ (T26.setTop (mkF m 9 _ [(.ref wt), (.ref pm_), (.ref x_), (.ref b10), (.ref b10)]))
  refine Go.st (t' := T26.setTop (mkF m 11 #[.val (.ref x_), .val (.ref pm_)] [.null, .null, (.ref wt), (.ref pm_), (.ref x_), (.ref b10), (.ref b10)])) (fun target kt => ?_) ?_
  · refine XS.aconstNull X26.here hx rfl (hb hby d6_9) ?_
    refine XS.aconstNull X26.here hx rfl (hb hby d6_10) ?_
    exact kt
  obtain ⟨_, _, ⟨T27, L27, k27, n27⟩, -, X27, ⟨Lc27, hQ27, l27, y27, z27⟩, st27⟩ := X26.specialBack hx (y := (⟨"com/example/graphweave/graphweave/jsonld/ActiveContext", "<init>", "(Ljava/lang/String;Lcom/example/graphweave/graphweave/jsonld/ProcessingMode;Lcom/example/graphweave/graphweave/jsonld/TermMap;Lcom/example/graphweave/graphweave/jsonld/ActiveContext;Lcom/example/graphweave/graphweave/jsonld/Location$Placement;)V"⟩ : MethodName)) rfl hown (mvT hZ (hw _ tw38)) (mvT hZ (hw _ tw39)) (mvT hZ (hw _ tw40)) (by decide) (backOf (W := 1) (rm7_r l Z a0 hw [] b10 x_ pm_ wt h10 n0 (Nat.le_trans Z0 K14.1) O15  g13 A10 F16 F17 F18 F19 F20 F21 F22 F23 F24 F25) hZ (hw _ tw40) (hw _ tw31) (by decide) (by decide)) (g := (mkF m 11 #[.val (.ref x_), .val (.ref pm_)] [.null, .null, (.ref wt), (.ref pm_), (.ref x_), (.ref b10), (.ref b10)])) rfl (by rw [hml]; rfl) (Steps.refl _) (a := b10) (argsL := [(.ref x_), (.ref pm_), (.ref wt), .null, .null]) (rest := [(.ref b10)]) (lenOf pd10 rfl) rfl (by show 2 * 0 + _ ≤ _; exact Nat.le_of_eq rfl) (hb hby d6_11) (fun _ _ => ⟨rfl, e26, (by decide : 1 + 0 ≤ _), (by decide : 10 + 0 ≤ _)⟩)
  dsimp only [Pt.U, Pt.locs, Pt.cells, Pt.slots] at X27 l27 y27 z27 st27 hQ27
  subst l27 y27 z27
  obtain ⟨rfl, Nq27, Kq27, q28, q29, q30, q31, q32, q33, q34, q35, q36, q37, q38⟩ := hQ27
  have N27 := Fr.app N0 Nq27
  have K39 := K14.trans Kq27 (allS (Or.inr sz12) all0)
  have O40 := O15.keep Kq27 (allS g13 all0)
  refine Go.by st27 ?_
  show Go _ _ _ _ _ _ _ (T27.setTop (mkF m 14 _ [(.ref b10)]))
  refine Go.ret X27 (v := some (.ref b10)) (fun h => by rw [hret] at h; cases h) hlk (fun fs hr => retR X27 hx hret rfl rfl (hb hby d6_14) hr) ?_ (by decide) (by decide)
  show Q6_r Z x_ pm_ wt wr h0 n0 _ T27.heap _
  exact ⟨b10, rfl, N27, K39, sz12, q28, q29, q30, q31, q32, q33, q34, q35, q36, q37, q38⟩
theorem d9_0 : decode prog_28_method_4_code 0 = .ok (.aload_n 0, 1) := by decide +kernel
theorem d9_1 : decode prog_28_method_4_code 1 = .ok (.getfield 13, 3) := by decide +kernel
theorem d9_4 : decode prog_28_method_4_code 4 = .ok (.getstatic 44, 3) := by decide +kernel
theorem tw66 : (Jvm.Cond.fieldLink "com/example/graphweave/graphweave/jsonld/ActiveContext" (44 : Nat) "com/example/graphweave/graphweave/jsonld/ProcessingMode" "JSON_LD_1_0" "Lcom/example/graphweave/graphweave/jsonld/ProcessingMode;") ∈ tables_1 := List.mem_of_getElem? (i := 66) rfl
theorem d9_7 : decode prog_28_method_4_code 7 = .ok (.if_acmp .ne 7, 3) := by decide +kernel
theorem d9_10 : decode prog_28_method_4_code 10 = .ok (.iconst 1, 1) := by decide +kernel
theorem d9_11 : decode prog_28_method_4_code 11 = .ok (.goto 4, 3) := by decide +kernel
theorem d9_15 : decode prog_28_method_4_code 15 = .ok (.ireturn, 1) := by decide +kernel
theorem ef9_0 (m : MethodId) (x0 : Addr) : entryFrame m #[(.ref x0)] 1 = mkF m 0 #[.val (.ref x0)] [] := by first | (simp [entryFrame, mkF, argsToLocals, Value.category]; done) | rfl
def Q9_0 (Z : State) (a0_ : Addr) (w0 : Addr) (w1 : Addr) (h0 : Heap) (n0 : Nat) (v : Option Value) (h : Heap) (L : List Loc) : Prop := v = some (.int 1) ∧ Fr n0 L ∧ h = h0
theorem rm9_0 (l : Launch) (Z : State) (a0 : Array Value) (hw : ∀ d ∈ tables_1, d.before a0 Z = true) (ws : List Jvm.Cond) (a0_ : Addr) (w0 : Addr) (w1 : Addr) (h0 : Heap) (n0 : Nat) (Z0 : n0 ≤ h0.size) (O0 : Old Z n0 h0) (S_10 : Sta Z Z.heap "com/example/graphweave/graphweave/jsonld/ProcessingMode" "JSON_LD_1_0" "Lcom/example/graphweave/graphweave/jsonld/ProcessingMode;" (.ref w0)) (F : Fld Z h0 a0_ "com/example/graphweave/graphweave/jsonld/ActiveContext" "processingMode" "Lcom/example/graphweave/graphweave/jsonld/ProcessingMode;" (.ref w0)) :
    Met l Z ws (⟨"com/example/graphweave/graphweave/jsonld/ActiveContext", "isJsonLd10", "()Z"⟩ : MethodName) prog_28_method_4_code 1 (some .boolean) (Rm 0 0 0 0) #[(.ref a0_)] h0 (Q9_0 Z a0_ w0 w1 h0 n0) := by
  refine Met.enter (L0 := #[.val (.ref a0_)]) (plainFor_of_name pn226) (fun m => ef9_0 m a0_) ?_
  intro p e s m below meth c s₁ hx hby hml hown hnm hret hlk hZ X0 e0
  have N0 := Fr.nil n0
  have K0 : Keep h0 h0 [] := Keep.refl h0 _
  refine Go.st (t' := s₁.setTop (mkF m 1 #[.val (.ref a0_)] [(.ref a0_)])) (fun target kt => ?_) ?_
  · refine XS.aloadN X0.here hx rfl (hb hby d9_0) rfl rfl ?_
    exact kt
  obtain ⟨T10, X10, e10, st10⟩ := getF X0 hx hZ hown (host := "") (Or.inl (hw _ tw44)) Via.refl e0 F (g := (mkF m 1 #[.val (.ref a0_)] [(.ref a0_)])) rfl rfl (hb hby d9_1)
  refine Go.st st10 ?_
  show Go _ _ _ _ _ _ _ (T10.setTop (mkF m 4 _ [(.ref w0)]))
  obtain ⟨T11, X11, e11, st11⟩ := getS2 X10 hx hZ hown (host := "") (Or.inl (hw _ tw66)) Via.refl e10 (S_10.ext O0.2) (g := (mkF m 4 #[.val (.ref a0_)] [(.ref w0)])) rfl (hb hby d9_4)
  refine Go.st st11 ?_
  show Go _ _ _ _ _ _ _ (T11.setTop (mkF m 7 _ [(.ref w0), (.ref w0)]))
  refine Go.st (t' := T11.setTop (mkF m 15 #[.val (.ref a0_)] [(.int 1)])) (fun target kt => ?_) ?_
  · refine Jvm.RoadKit.acmp (g := (mkF m 7 #[.val (.ref a0_)] [(.ref w0), (.ref w0)])) X11 hx rfl rfl rfl (pc0 := 7) (pc' := 10) (same := true) rfl (hb hby d9_7) rfl (decide_eq_true rfl) (by decide) (by decide) ?_
    refine XS.iconst X11.here hx rfl (hb hby d9_10) ?_
    refine XS.goto X11.here hx rfl (pc0 := 11) (pc' := 15) rfl (hb hby d9_11) (by decide) (by decide) ?_
    exact kt
  refine Go.ret X11 (v := some (.int 1)) (fun h => by rw [hret] at h; cases h) hlk (fun fs hr => retN X11 hx (t := .boolean) hret (by simp) (hb hby d9_15) hr) ?_ (by decide) (by decide)
  show Q9_0 Z a0_ w0 w1 h0 n0 _ T11.heap _
  rw [e11]
  exact ⟨rfl, N0, rfl⟩
theorem d9_14 : decode prog_28_method_4_code 14 = .ok (.iconst 0, 1) := by decide +kernel
theorem ef9_1 (m : MethodId) (x0 : Addr) : entryFrame m #[(.ref x0)] 1 = mkF m 0 #[.val (.ref x0)] [] := by first | (simp [entryFrame, mkF, argsToLocals, Value.category]; done) | rfl
def Q9_1 (Z : State) (a0_ : Addr) (w0 : Addr) (w1 : Addr) (h0 : Heap) (n0 : Nat) (v : Option Value) (h : Heap) (L : List Loc) : Prop := v = some (.int 0) ∧ Fr n0 L ∧ h = h0
theorem rm9_1 (l : Launch) (Z : State) (a0 : Array Value) (hw : ∀ d ∈ tables_1, d.before a0 Z = true) (ws : List Jvm.Cond) (a0_ : Addr) (w0 : Addr) (w1 : Addr) (h0 : Heap) (n0 : Nat) (Z0 : n0 ≤ h0.size) (O0 : Old Z n0 h0) (S_10 : Sta Z Z.heap "com/example/graphweave/graphweave/jsonld/ProcessingMode" "JSON_LD_1_0" "Lcom/example/graphweave/graphweave/jsonld/ProcessingMode;" (.ref w0)) (hpm : w1 ≠ w0) (F : Fld Z h0 a0_ "com/example/graphweave/graphweave/jsonld/ActiveContext" "processingMode" "Lcom/example/graphweave/graphweave/jsonld/ProcessingMode;" (.ref w1)) :
    Met l Z ws (⟨"com/example/graphweave/graphweave/jsonld/ActiveContext", "isJsonLd10", "()Z"⟩ : MethodName) prog_28_method_4_code 1 (some .boolean) (Rm 0 0 0 0) #[(.ref a0_)] h0 (Q9_1 Z a0_ w0 w1 h0 n0) := by
  refine Met.enter (L0 := #[.val (.ref a0_)]) (plainFor_of_name pn226) (fun m => ef9_1 m a0_) ?_
  intro p e s m below meth c s₁ hx hby hml hown hnm hret hlk hZ X0 e0
  have N0 := Fr.nil n0
  have K0 : Keep h0 h0 [] := Keep.refl h0 _
  refine Go.st (t' := s₁.setTop (mkF m 1 #[.val (.ref a0_)] [(.ref a0_)])) (fun target kt => ?_) ?_
  · refine XS.aloadN X0.here hx rfl (hb hby d9_0) rfl rfl ?_
    exact kt
  obtain ⟨T10, X10, e10, st10⟩ := getF X0 hx hZ hown (host := "") (Or.inl (hw _ tw44)) Via.refl e0 F (g := (mkF m 1 #[.val (.ref a0_)] [(.ref a0_)])) rfl rfl (hb hby d9_1)
  refine Go.st st10 ?_
  show Go _ _ _ _ _ _ _ (T10.setTop (mkF m 4 _ [(.ref w1)]))
  obtain ⟨T11, X11, e11, st11⟩ := getS2 X10 hx hZ hown (host := "") (Or.inl (hw _ tw66)) Via.refl e10 (S_10.ext O0.2) (g := (mkF m 4 #[.val (.ref a0_)] [(.ref w1)])) rfl (hb hby d9_4)
  refine Go.st st11 ?_
  show Go _ _ _ _ _ _ _ (T11.setTop (mkF m 7 _ [(.ref w0), (.ref w1)]))
  refine Go.st (t' := T11.setTop (mkF m 15 #[.val (.ref a0_)] [(.int 0)])) (fun target kt => ?_) ?_
  · refine Jvm.RoadKit.acmp (g := (mkF m 7 #[.val (.ref a0_)] [(.ref w0), (.ref w1)])) X11 hx rfl rfl rfl (pc0 := 7) (pc' := 14) (same := false) rfl (hb hby d9_7) rfl (decide_eq_false fun q => hpm (Value.ref.inj q)) (by decide) (by decide) ?_
    refine XS.iconst X11.here hx rfl (hb hby d9_14) ?_
    exact kt
  refine Go.ret X11 (v := some (.int 0)) (fun h => by rw [hret] at h; cases h) hlk (fun fs hr => retN X11 hx (t := .boolean) hret (by simp) (hb hby d9_15) hr) ?_ (by decide) (by decide)
  show Q9_1 Z a0_ w0 w1 h0 n0 _ T11.heap _
  rw [e11]
  exact ⟨rfl, N0, rfl⟩
theorem d10_0 : decode prog_28_method_7_code 0 = .ok (.aload_n 0, 1) := by decide +kernel
theorem d10_1 : decode prog_28_method_7_code 1 = .ok (.getfield 24, 3) := by decide +kernel
theorem d10_4 : decode prog_28_method_7_code 4 = .ok (.areturn, 1) := by decide +kernel
theorem ef10 (m : MethodId) (x0 : Addr) : entryFrame m #[(.ref x0)] 1 = mkF m 0 #[.val (.ref x0)] [] := by first | (simp [entryFrame, mkF, argsToLocals, Value.category]; done) | rfl
def Q10 (Z : State) (a0_ : Addr) (h0 : Heap) (n0 : Nat) (v : Option Value) (h : Heap) (L : List Loc) : Prop := v = some (.ref a0_) ∧ Fr n0 L ∧ h = h0
theorem rm10 (l : Launch) (Z : State) (a0 : Array Value) (hw : ∀ d ∈ tables_1, d.before a0 Z = true) (ws : List Jvm.Cond) (a0_ : Addr) (h0 : Heap) (n0 : Nat) (Z0 : n0 ≤ h0.size) (O0 : Old Z n0 h0) (F : Fld Z h0 a0_ "com/example/graphweave/graphweave/jsonld/ActiveContext" "processed" "Lcom/example/graphweave/graphweave/jsonld/ActiveContext;" (.ref a0_)) :
    Met l Z ws (⟨"com/example/graphweave/graphweave/jsonld/ActiveContext", "processed", "()Lcom/example/graphweave/graphweave/jsonld/ActiveContext;"⟩ : MethodName) prog_28_method_7_code 1 (some (.object "com/example/graphweave/graphweave/jsonld/ActiveContext")) (Rm 0 0 0 0) #[(.ref a0_)] h0 (Q10 Z a0_ h0 n0) := by
  refine Met.enter (L0 := #[.val (.ref a0_)]) (plainFor_of_name pn226) (fun m => ef10 m a0_) ?_
  intro p e s m below meth c s₁ hx hby hml hown hnm hret hlk hZ X0 e0
  have N0 := Fr.nil n0
  have K0 : Keep h0 h0 [] := Keep.refl h0 _
  refine Go.st (t' := s₁.setTop (mkF m 1 #[.val (.ref a0_)] [(.ref a0_)])) (fun target kt => ?_) ?_
  · refine XS.aloadN X0.here hx rfl (hb hby d10_0) rfl rfl ?_
    exact kt
  obtain ⟨T10, X10, e10, st10⟩ := getF X0 hx hZ hown (host := "") (Or.inl (hw _ tw50)) Via.refl e0 F (g := (mkF m 1 #[.val (.ref a0_)] [(.ref a0_)])) rfl rfl (hb hby d10_1)
  refine Go.st st10 ?_
  show Go _ _ _ _ _ _ _ (T10.setTop (mkF m 4 _ [(.ref a0_)]))
  refine Go.ret X10 (v := some (.ref a0_)) (fun h => by rw [hret] at h; cases h) hlk (fun fs hr => retR X10 hx hret rfl rfl (hb hby d10_4) hr) ?_ (by decide) (by decide)
  show Q10 Z a0_ h0 n0 _ T10.heap _
  rw [e10]
  exact ⟨rfl, N0, rfl⟩
theorem d14_0 : decode jdk_42_method_154_code 0 = .ok (.getstatic 38, 3) := by decide +kernel
theorem d14_3 : decode jdk_42_method_154_code 3 = .ok (.ifCond .eq 14, 3) := by decide +kernel
theorem d14_6 : decode jdk_42_method_154_code 6 = .ok (.aload_n 0, 1) := by decide +kernel
theorem d14_7 : decode jdk_42_method_154_code 7 = .ok (.getfield 15, 3) := by decide +kernel
theorem d14_10 : decode jdk_42_method_154_code 10 = .ok (.ifCond .ne 7, 3) := by decide +kernel
theorem d14_13 : decode jdk_42_method_154_code 13 = .ok (.iconst 1, 1) := by decide +kernel
theorem d14_14 : decode jdk_42_method_154_code 14 = .ok (.goto 4, 3) := by decide +kernel
theorem d14_18 : decode jdk_42_method_154_code 18 = .ok (.ireturn, 1) := by decide +kernel
theorem ef14 (m : MethodId) (x0 : Addr) : entryFrame m #[(.ref x0)] 1 = mkF m 0 #[.val (.ref x0)] [] := by first | (simp [entryFrame, mkF, argsToLocals, Value.category]; done) | rfl
def Q14 (Z : State) (a0_ : Addr) (wcs : Int32) (h0 : Heap) (n0 : Nat) (v : Option Value) (h : Heap) (L : List Loc) : Prop := v = some (.int 1) ∧ Fr n0 L ∧ h = h0
theorem rm14 (l : Launch) (Z : State) (a0 : Array Value) (hw : ∀ d ∈ tables_1, d.before a0 Z = true) (ws : List Jvm.Cond) (a0_ : Addr) (wcs : Int32) (h0 : Heap) (n0 : Nat) (Z0 : n0 ≤ h0.size) (O0 : Old Z n0 h0) (S_CS : Sta Z Z.heap "java/lang/String" "COMPACT_STRINGS" "Z" (.int wcs)) (hcs : ¬ (wcs = (0 : Int32))) (Fc : Fld Z h0 a0_ "java/lang/String" "coder" "B" (.int 0)) :
    Met l Z ws (⟨"java/lang/String", "isLatin1", "()Z"⟩ : MethodName) jdk_42_method_154_code 1 (some .boolean) (Rm 0 0 0 0) #[(.ref a0_)] h0 (Q14 Z a0_ wcs h0 n0) := by
  refine Met.enter (L0 := #[.val (.ref a0_)]) (plainFor_of_name pn24) (fun m => ef14 m a0_) ?_
  intro p e s m below meth c s₁ hx hby hml hown hnm hret hlk hZ X0 e0
  have N0 := Fr.nil n0
  have K0 : Keep h0 h0 [] := Keep.refl h0 _
  obtain ⟨T10, X10, e10, st10⟩ := getS2 X0 hx hZ hown (host := "") (Or.inl (hw _ tw7)) Via.refl e0 (S_CS.ext O0.2) (g := (mkF m 0 #[.val (.ref a0_)] [])) rfl (hb hby d14_0)
  refine Go.st st10 ?_
  show Go _ _ _ _ _ _ _ (T10.setTop (mkF m 3 _ [(.int wcs)]))
  refine Go.st (t' := T10.setTop (mkF m 7 #[.val (.ref a0_)] [(.ref a0_)])) (fun target kt => ?_) ?_
  · refine XS.ifNo X10.here hx rfl (hb hby d14_3) rfl ((if0 _ _).trans (feq hcs).1) ?_
    refine XS.aloadN X10.here hx rfl (hb hby d14_6) rfl rfl ?_
    exact kt
  obtain ⟨T11, X11, e11, st11⟩ := getF X10 hx hZ hown (host := "") (Or.inl (hw _ tw27)) Via.refl e10 Fc (g := (mkF m 7 #[.val (.ref a0_)] [(.ref a0_)])) rfl rfl (hb hby d14_7)
  refine Go.st st11 ?_
  show Go _ _ _ _ _ _ _ (T11.setTop (mkF m 10 _ [(.int 0)]))
  refine Go.st (t' := T11.setTop (mkF m 18 #[.val (.ref a0_)] [(.int 1)])) (fun target kt => ?_) ?_
  · refine XS.ifNo X11.here hx rfl (hb hby d14_10) rfl ((if0 _ _).trans (teq (by decide : (0 : Int32) = (0 : Int32))).2) ?_
    refine XS.iconst X11.here hx rfl (hb hby d14_13) ?_
    refine XS.goto X11.here hx rfl (pc0 := 14) (pc' := 18) rfl (hb hby d14_14) (by decide) (by decide) ?_
    exact kt
  refine Go.ret X11 (v := some (.int 1)) (fun h => by rw [hret] at h; cases h) hlk (fun fs hr => retN X11 hx (t := .boolean) hret (by simp) (hb hby d14_18) hr) ?_ (by decide) (by decide)
  show Q14 Z a0_ wcs h0 n0 _ T11.heap _
  rw [e11]
  exact ⟨rfl, N0, rfl⟩
theorem d15_0 : decode jdk_43_method_21_code 0 = .ok (.aload_n 0, 1) := by decide +kernel
theorem d15_1 : decode jdk_43_method_21_code 1 = .ok (.arraylength, 1) := by decide +kernel
theorem d15_2 : decode jdk_43_method_21_code 2 = .ok (.lookupswitch 40 #[(0, 26), (1, 30)], 26) := by decide +kernel
theorem d15_32 : decode jdk_43_method_21_code 32 = .ok (.aload_n 0, 1) := by decide +kernel
theorem d15_33 : decode jdk_43_method_21_code 33 = .ok (.iconst 0, 1) := by decide +kernel
theorem d15_34 : decode jdk_43_method_21_code 34 = .ok (.baload, 1) := by decide +kernel
theorem d15_35 : decode jdk_43_method_21_code 35 = .ok (.sipush 255, 3) := by decide +kernel
theorem d15_38 : decode jdk_43_method_21_code 38 = .ok (.iand, 1) := by decide +kernel
theorem d15_39 : decode jdk_43_method_21_code 39 = .ok (.goto 12, 3) := by decide +kernel
theorem d15_51 : decode jdk_43_method_21_code 51 = .ok (.ireturn, 1) := by decide +kernel
theorem ef15 (m : MethodId) (x0 : Addr) : entryFrame m #[(.ref x0)] 1 = mkF m 0 #[.val (.ref x0)] [] := by first | (simp [entryFrame, mkF, argsToLocals, Value.category]; done) | rfl
def Q15 (Z : State) (a0_ : Addr) (k_ : ClassId) (x_ : Int32) (h0 : Heap) (n0 : Nat) (v : Option Value) (h : Heap) (L : List Loc) : Prop := ∃ (z : Int32), v = some (.int z) ∧ Fr n0 L ∧ h = h0
theorem rm15 (l : Launch) (Z : State) (a0 : Array Value) (hw : ∀ d ∈ tables_1, d.before a0 Z = true) (ws : List Jvm.Cond) (a0_ : Addr) (k_ : ClassId) (x_ : Int32) (h0 : Heap) (n0 : Nat) (Z0 : n0 ≤ h0.size) (O0 : Old Z n0 h0) (V : Arv Z h0 a0_ k_ .byte (1 : Int32) [(.int x_)] (.int 0)) :
    Met l Z ws (⟨"java/lang/StringLatin1", "hashCode", "([B)I"⟩ : MethodName) jdk_43_method_21_code 1 (some .int) (Rm 0 0 0 0) #[(.ref a0_)] h0 (Q15 Z a0_ k_ x_ h0 n0) := by
  refine Met.enter (L0 := #[.val (.ref a0_)]) (plainFor_of_name pn6) (fun m => ef15 m a0_) ?_
  intro p e s m below meth c s₁ hx hby hml hown hnm hret hlk hZ X0 e0
  have N0 := Fr.nil n0
  have K0 : Keep h0 h0 [] := Keep.refl h0 _
  obtain ⟨cl10, Ar10, -, S10, M10, -, -⟩ := id V
  obtain ⟨cl11, Ar11, -, S11, M11, H11, -⟩ := id V
  have hin11 : ¬ ((0 : Int32) < 0 ∨ cl11.slots.size ≤ ((0 : Int32)).toNatClampNeg) := inb_of S11 ⟨by decide, by decide⟩
  have hat11 : cl11.slots[((0 : Int32)).toNatClampNeg]? = some (.int x_) := H11.at hin11 rfl
  refine Go.st (t' := s₁.setTop (mkF m 51 #[.val (.ref a0_)] [(.int (x_ &&& (255 : Int32)))])) (fun target kt => ?_) ?_
  · refine XS.aloadN X0.here hx rfl (hb hby d15_0) rfl rfl ?_
    refine X0.arraylength hx (by rw [e0]; exact Ar10.1) (State.isArrayOf_alike hZ.alike Ar10.2.1) (g := (mkF m 1 #[.val (.ref a0_)] [(.ref a0_)])) rfl rfl (hb hby d15_1) _ ?_
    rw [len_of S10 M10]
    refine X0.lookupswitchHit hx (g := (mkF m 2 #[.val (.ref a0_)] [(.int 1)])) rfl (k := (1 : Int32)) (rest := []) rfl (hb hby d15_2) (by decide) (a := 1) (off := 30) (by decide) (by show (0 : Int) ≤ (2 : Nat) + 30; decide) _ ?_
    refine XS.aloadN X0.here hx rfl (hb hby d15_32) rfl rfl ?_
    refine XS.iconst X0.here hx rfl (hb hby d15_33) ?_
    refine X0.baloadBytes hx (j := (0 : Int32)) (v := (.int x_)) (by rw [e0]; exact Ar11.1) (State.isArrayOf_alike hZ.alike Ar11.2.1) Ar11.2.2 hin11 hat11 (g := (mkF m 34 #[.val (.ref a0_)] [(.int 0), (.ref a0_)])) rfl rfl (hb hby d15_34) _ ?_
    refine XS.sipush X0.here hx rfl (hb hby d15_35) ?_
    refine XS.iand X0.here hx rfl (hb hby d15_38) rfl ?_
    refine XS.goto X0.here hx rfl (pc0 := 39) (pc' := 51) rfl (hb hby d15_39) (by decide) (by decide) ?_
    exact kt
  refine Go.ret X0 (v := some (.int (x_ &&& (255 : Int32)))) (fun h => by rw [hret] at h; cases h) hlk (fun fs hr => retI X0 hx hret (hb hby d15_51) hr) ?_ (by decide) (by decide)
  show Q15 Z a0_ k_ x_ h0 n0 _ s₁.heap _
  rw [e0]
  exact ⟨(x_ &&& (255 : Int32)), rfl, N0, rfl⟩
theorem d13_0 : decode jdk_42_method_78_code 0 = .ok (.aload_n 0, 1) := by decide +kernel
theorem d13_1 : decode jdk_42_method_78_code 1 = .ok (.getfield 19, 3) := by decide +kernel
theorem tw95 : (Jvm.Cond.fieldLink "java/lang/String" (19 : Nat) "java/lang/String" "hash" "I") ∈ tables_1 := List.mem_of_getElem? (i := 95) rfl
theorem d13_4 : decode jdk_42_method_78_code 4 = .ok (.istore_n 1, 1) := by decide +kernel
theorem d13_5 : decode jdk_42_method_78_code 5 = .ok (.iload_n 1, 1) := by decide +kernel
theorem d13_6 : decode jdk_42_method_78_code 6 = .ok (.ifCond .ne 52, 3) := by decide +kernel
theorem d13_9 : decode jdk_42_method_78_code 9 = .ok (.aload_n 0, 1) := by decide +kernel
theorem d13_10 : decode jdk_42_method_78_code 10 = .ok (.getfield 23, 3) := by decide +kernel
theorem tw97 : (Jvm.Cond.fieldLink "java/lang/String" (23 : Nat) "java/lang/String" "hashIsZero" "Z") ∈ tables_1 := List.mem_of_getElem? (i := 97) rfl
theorem d13_13 : decode jdk_42_method_78_code 13 = .ok (.ifCond .ne 45, 3) := by decide +kernel
theorem d13_16 : decode jdk_42_method_78_code 16 = .ok (.aload_n 0, 1) := by decide +kernel
theorem d13_17 : decode jdk_42_method_78_code 17 = .ok (.invokevirtual 492, 3) := by decide +kernel
theorem tw99 : (Jvm.Cond.methodLink "java/lang/String" (492 : Nat) ({ cls := "java/lang/String", name := "isLatin1", desc := "()Z" } : Jvm.MethodName)) ∈ tables_1 := List.mem_of_getElem? (i := 99) rfl
theorem tw103 : (Jvm.Cond.code ({ cls := "java/lang/String", name := "isLatin1", desc := "()Z" } : Jvm.MethodName) jdk_42_method_154_code (1 : Nat) (Option.some Jvm.ClassFile.FieldType.boolean)) ∈ tables_1 := List.mem_of_getElem? (i := 103) rfl
theorem pd11 : parseMethodDescriptor "()Z" = some ⟨[], some .boolean⟩ := by decide +kernel
theorem tw102 : (Jvm.Cond.selects "java/lang/String" ({ cls := "java/lang/String", name := "isLatin1", desc := "()Z" } : Jvm.MethodName) ({ cls := "java/lang/String", name := "isLatin1", desc := "()Z" } : Jvm.MethodName)) ∈ tables_1 := List.mem_of_getElem? (i := 102) rfl
theorem tw100 : (Jvm.Cond.declares ({ cls := "java/lang/String", name := "isLatin1", desc := "()Z" } : Jvm.MethodName)) ∈ tables_1 := List.mem_of_getElem? (i := 100) rfl
theorem tw101 : (Jvm.Cond.instanceMethod ({ cls := "java/lang/String", name := "isLatin1", desc := "()Z" } : Jvm.MethodName)) ∈ tables_1 := List.mem_of_getElem? (i := 101) rfl
theorem d13_20 : decode jdk_42_method_78_code 20 = .ok (.ifCond .eq 13, 3) := by decide +kernel
theorem d13_23 : decode jdk_42_method_78_code 23 = .ok (.aload_n 0, 1) := by decide +kernel
theorem d13_24 : decode jdk_42_method_78_code 24 = .ok (.getfield 9, 3) := by decide +kernel
theorem d13_27 : decode jdk_42_method_78_code 27 = .ok (.invokestatic 628, 3) := by decide +kernel
theorem tw104 : (Jvm.Cond.methodLink "java/lang/String" (628 : Nat) ({ cls := "java/lang/StringLatin1", name := "hashCode", desc := "([B)I" } : Jvm.MethodName)) ∈ tables_1 := List.mem_of_getElem? (i := 104) rfl
theorem tw106 : (Jvm.Cond.code ({ cls := "java/lang/StringLatin1", name := "hashCode", desc := "([B)I" } : Jvm.MethodName) jdk_43_method_21_code (1 : Nat) (Option.some Jvm.ClassFile.FieldType.int)) ∈ tables_1 := List.mem_of_getElem? (i := 106) rfl
theorem pd12 : parseMethodDescriptor "([B)I" = some ⟨[(.array .byte)], some .int⟩ := by decide +kernel
theorem tw105 : (Jvm.Cond.static ({ cls := "java/lang/StringLatin1", name := "hashCode", desc := "([B)I" } : Jvm.MethodName)) ∈ tables_1 := List.mem_of_getElem? (i := 105) rfl
theorem d13_30 : decode jdk_42_method_78_code 30 = .ok (.goto 10, 3) := by decide +kernel
theorem d13_40 : decode jdk_42_method_78_code 40 = .ok (.istore_n 1, 1) := by decide +kernel
theorem d13_41 : decode jdk_42_method_78_code 41 = .ok (.iload_n 1, 1) := by decide +kernel
theorem d13_42 : decode jdk_42_method_78_code 42 = .ok (.ifCond .ne 11, 3) := by decide +kernel
theorem d13_45 : decode jdk_42_method_78_code 45 = .ok (.aload_n 0, 1) := by decide +kernel
theorem d13_46 : decode jdk_42_method_78_code 46 = .ok (.iconst 1, 1) := by decide +kernel
theorem d13_47 : decode jdk_42_method_78_code 47 = .ok (.putfield 23, 3) := by decide +kernel
theorem d13_50 : decode jdk_42_method_78_code 50 = .ok (.goto 8, 3) := by decide +kernel
theorem d13_58 : decode jdk_42_method_78_code 58 = .ok (.iload_n 1, 1) := by decide +kernel
theorem d13_59 : decode jdk_42_method_78_code 59 = .ok (.ireturn, 1) := by decide +kernel
theorem d13_53 : decode jdk_42_method_78_code 53 = .ok (.aload_n 0, 1) := by decide +kernel
theorem d13_54 : decode jdk_42_method_78_code 54 = .ok (.iload_n 1, 1) := by decide +kernel
theorem d13_55 : decode jdk_42_method_78_code 55 = .ok (.putfield 19, 3) := by decide +kernel
theorem ef13 (m : MethodId) (x0 : Addr) : entryFrame m #[(.ref x0)] 2 = mkF m 0 #[.val (.ref x0), .unset] [] := by first | (simp [entryFrame, mkF, argsToLocals, Value.category]; done) | rfl
def Q13 (Z : State) (a0_ : Addr) (wcs : Int32) (v_ : Addr) (k_ : ClassId) (x_ : Int32) (h0 : Heap) (n0 : Nat) (v : Option Value) (h : Heap) (L : List Loc) : Prop := ∃ (z : Int32), v = some (.int z) ∧ Fr n0 L ∧ Keep h0 h [a0_]
theorem rm13 (l : Launch) (Z : State) (a0 : Array Value) (hw : ∀ d ∈ tables_1, d.before a0 Z = true) (ws : List Jvm.Cond) (a0_ : Addr) (wcs : Int32) (v_ : Addr) (k_ : ClassId) (x_ : Int32) (h0 : Heap) (n0 : Nat) (Z0 : n0 ≤ h0.size) (O0 : Old Z n0 h0) (S_CS : Sta Z Z.heap "java/lang/String" "COMPACT_STRINGS" "Z" (.int wcs)) (hcs : ¬ (wcs = (0 : Int32))) (g0 : n0 ≤ a0_) (E_a0_ : Exa Z h0 a0_ "java/lang/String") (Fv_a0_ : Fld Z h0 a0_ "java/lang/String" "value" "[B" (.ref v_)) (Fc_a0_ : Fld Z h0 a0_ "java/lang/String" "coder" "B" (.int 0)) (Fh_a0_ : Fld Z h0 a0_ "java/lang/String" "hash" "I" (.int 0)) (Fz_a0_ : Fld Z h0 a0_ "java/lang/String" "hashIsZero" "Z" (.int 0)) (V : Arv Z h0 v_ k_ .byte (1 : Int32) [(.int x_)] (.int 0)) :
    Met l Z ws (⟨"java/lang/String", "hashCode", "()I"⟩ : MethodName) jdk_42_method_78_code 2 (some .int) (Rm 1 0 0 12) #[(.ref a0_)] h0 (Q13 Z a0_ wcs v_ k_ x_ h0 n0) := by
  refine Met.enter (L0 := #[.val (.ref a0_), .unset]) (plainFor_of_name pn24) (fun m => ef13 m a0_) ?_
  intro p e s m below meth c s₁ hx hby hml hown hnm hret hlk hZ X0 e0
  have N0 := Fr.nil n0
  have K0 : Keep h0 h0 [a0_] := Keep.refl h0 _
  refine Go.st (t' := s₁.setTop (mkF m 1 #[.val (.ref a0_), .unset] [(.ref a0_)])) (fun target kt => ?_) ?_
  · refine XS.aloadN X0.here hx rfl (hb hby d13_0) rfl rfl ?_
    exact kt
  obtain ⟨T10, X10, e10, st10⟩ := getF X0 hx hZ hown (host := "") (Or.inl (hw _ tw95)) Via.refl e0 Fh_a0_ (g := (mkF m 1 #[.val (.ref a0_), .unset] [(.ref a0_)])) rfl rfl (hb hby d13_1)
  refine Go.st st10 ?_
  show Go _ _ _ _ _ _ _ (T10.setTop (mkF m 4 _ [(.int 0)]))
  refine Go.st (t' := T10.setTop (mkF m 10 #[.val (.ref a0_), .val (.int 0)] [(.ref a0_)])) (fun target kt => ?_) ?_
  · refine XS.istoreN X10.here hx rfl (hb hby d13_4) rfl (l' := #[.val (.ref a0_), .val (.int 0)]) rfl ?_
    refine XS.iloadN X10.here hx rfl (hb hby d13_5) rfl ?_
    refine XS.ifNo X10.here hx rfl (hb hby d13_6) rfl ((if0 _ _).trans (teq (by decide : (0 : Int32) = (0 : Int32))).2) ?_
    refine XS.aloadN X10.here hx rfl (hb hby d13_9) rfl rfl ?_
    exact kt
  obtain ⟨T11, X11, e11, st11⟩ := getF X10 hx hZ hown (host := "") (Or.inl (hw _ tw97)) Via.refl e10 Fz_a0_ (g := (mkF m 10 #[.val (.ref a0_), .val (.int 0)] [(.ref a0_)])) rfl rfl (hb hby d13_10)
  refine Go.st st11 ?_
  show Go _ _ _ _ _ _ _ (T11.setTop (mkF m 13 _ [(.int 0)]))
  refine Go.st (t' := T11.setTop (mkF m 17 #[.val (.ref a0_), .val (.int 0)] [(.ref a0_)])) (fun target kt => ?_) ?_
  · refine XS.ifNo X11.here hx rfl (hb hby d13_13) rfl ((if0 _ _).trans (teq (by decide : (0 : Int32) = (0 : Int32))).2) ?_
    refine XS.aloadN X11.here hx rfl (hb hby d13_16) rfl rfl ?_
    exact kt
  obtain ⟨cq12, kq12, q12a, q12b, q12c⟩ := isOf hZ e11 E_a0_
  obtain ⟨_, _, ⟨T12, L12, k12, n12⟩, -, X12, ⟨Lc12, hQ12, l12, y12, z12⟩, st12⟩ := X11.virtualBack hx (y := (⟨"java/lang/String", "isLatin1", "()Z"⟩ : MethodName)) (z := (⟨"java/lang/String", "isLatin1", "()Z"⟩ : MethodName)) hown (mvT hZ (hw _ tw99)) (mvT hZ (hw _ tw100)) (notFace_of_selects (args := #[]) (mvT hZ (hw _ tw102))) (mvT hZ (hw _ tw102)) (mvT hZ (hw _ tw101)) (by decide) (backOf (W := 0) (rm14 l Z a0 hw [] a0_ wcs h0 n0 (Nat.le_trans Z0 K0.1) O0 S_CS hcs Fc_a0_) hZ (hw _ tw103) (hw _ tw5) (by decide) (by decide)) q12a q12c (g := (mkF m 17 #[.val (.ref a0_), .val (.int 0)] [(.ref a0_)])) rfl (by rw [hml]; rfl) (Steps.refl _) (argsL := []) (rest := []) (lenOf pd11 rfl) rfl (by show 2 * 0 + _ ≤ _; exact Nat.le_of_eq rfl) (hb hby d13_17) (fun _ _ => ⟨rfl, e11, (by decide : 0 + 0 ≤ _), (by decide : 0 + 0 ≤ _)⟩)
  dsimp only [Pt.U, Pt.locs, Pt.cells, Pt.slots] at X12 l12 y12 z12 st12 hQ12
  subst l12 y12 z12
  obtain ⟨rfl, Nq12, eq12⟩ := hQ12
  have N12 := Fr.app N0 Nq12
  refine Go.by st12 ?_
  show Go _ _ _ _ _ _ _ (T12.setTop (mkF m 20 _ [(.int 1)]))
  refine Go.st (t' := T12.setTop (mkF m 24 #[.val (.ref a0_), .val (.int 0)] [(.ref a0_)])) (fun target kt => ?_) ?_
  · refine XS.ifNo X12.here hx rfl (hb hby d13_20) rfl ((if0 _ _).trans (feq (by decide : ¬ ((1 : Int32) = (0 : Int32)))).1) ?_
    refine XS.aloadN X12.here hx rfl (hb hby d13_23) rfl rfl ?_
    exact kt
  obtain ⟨T13, X13, e13, st13⟩ := getF X12 hx hZ hown (host := "") (Or.inl (hw _ tw25)) Via.refl eq12 Fv_a0_ (g := (mkF m 24 #[.val (.ref a0_), .val (.int 0)] [(.ref a0_)])) rfl rfl (hb hby d13_24)
  refine Go.st st13 ?_
  show Go _ _ _ _ _ _ _ (T13.setTop (mkF m 27 _ [(.ref v_)]))
  obtain ⟨_, _, ⟨T14, L14, k14, n14⟩, -, X14, ⟨Lc14, hQ14, l14, y14, z14⟩, st14⟩ := Jvm.LawKit.callS X13 hx (y := (⟨"java/lang/StringLatin1", "hashCode", "([B)I"⟩ : MethodName)) hown (mvT hZ (hw _ tw104)) (mvT hZ (hw _ tw105)) (mvT hZ (hw _ tw10)) (mvT hZ (hw _ tw106)) (by decide) (backOf (W := 0) (rm15 l Z a0 hw [] v_ k_ x_ h0 n0 (Nat.le_trans Z0 K0.1) O0  V) hZ (hw _ tw106) (hw _ tw10) (by decide) (by decide)) (g := (mkF m 27 #[.val (.ref a0_), .val (.int 0)] [(.ref v_)])) rfl (by rw [hml]; rfl) (argsL := [(.ref v_)]) (rest := []) (lenOf pd12 rfl) rfl (by show 2 * 0 + _ ≤ _; exact Nat.le_of_eq rfl) (hb hby d13_27) (fun _ _ => ⟨rfl, e13, (by decide : 0 + 0 ≤ _), (by decide : 0 + 0 ≤ _)⟩)
  dsimp only [Pt.U, Pt.locs, Pt.cells, Pt.slots] at X14 l14 y14 z14 st14 hQ14
  subst l14 y14 z14
  obtain ⟨i15, rfl, Nq14, eq14⟩ := hQ14
  have N14 := Fr.app N12 Nq14
  refine Go.st st14 ?_
  show Go _ _ _ _ _ _ _ (T14.setTop (mkF m 30 _ [(.int i15)]))
  refine Go.st (t' := T14.setTop (mkF m 42 #[.val (.ref a0_), .val (.int i15)] [(.int i15)])) (fun target kt => ?_) ?_
  · refine XS.goto X14.here hx rfl (pc0 := 30) (pc' := 40) rfl (hb hby d13_30) (by decide) (by decide) ?_
    refine XS.istoreN X14.here hx rfl (hb hby d13_40) rfl (l' := #[.val (.ref a0_), .val (.int i15)]) rfl ?_
    refine XS.iloadN X14.here hx rfl (hb hby d13_41) rfl ?_
    exact kt
  rcases Classical.em (i15 = (0 : Int32)) with hc16 | hc16
  · refine Go.st (t' := T14.setTop (mkF m 47 #[.val (.ref a0_), .val (.int i15)] [(.int 1), (.ref a0_)])) (fun target kt => ?_) ?_
    · refine XS.ifNo X14.here hx rfl (hb hby d13_42) rfl ((if0 _ _).trans (teq hc16).2) ?_
      refine XS.aloadN X14.here hx rfl (hb hby d13_45) rfl rfl ?_
      refine XS.iconst X14.here hx rfl (hb hby d13_46) ?_
      exact kt
    obtain ⟨T17, h17, X17, e17, W17, st17⟩ := putFN X14 hx hZ hown (hw _ tw97) Via.refl eq14 Fz_a0_ E_a0_ (Or.inl (hw _ tw98)) (hw _ tw13) (ty := .boolean) (v' := (.int 1)) (by decide) rfl (by decide) (g := (mkF m 47 #[.val (.ref a0_), .val (.int i15)] [(.int 1), (.ref a0_)])) rfl rfl (hb hby d13_47)
    have F18 : Fld Z h17 a0_ "java/lang/String" "hashIsZero" "Z" (.int 1) := Fz_a0_.same W17
    have K19 := K0.wr W17 (Or.inl (List.mem_of_getElem? (i := 0) rfl))
    have O20 := O0.wr W17 g0
    have N17 := Fr.snoc X17 N14 g0
    refine Go.st st17 ?_
    show Go _ _ _ _ _ _ _ (T17.setTop (mkF m 50 _ []))
    refine Go.st (t' := T17.setTop (mkF m 59 #[.val (.ref a0_), .val (.int i15)] [(.int i15)])) (fun target kt => ?_) ?_
    · refine XS.goto X17.here hx rfl (pc0 := 50) (pc' := 58) rfl (hb hby d13_50) (by decide) (by decide) ?_
      refine XS.iloadN X17.here hx rfl (hb hby d13_58) rfl ?_
      exact kt
    refine Go.ret X17 (v := some (.int i15)) (fun h => by rw [hret] at h; cases h) hlk (fun fs hr => retI X17 hx hret (hb hby d13_59) hr) ?_ (by decide) (by decide)
    show Q13 Z a0_ wcs v_ k_ x_ h0 n0 _ T17.heap _
    rw [e17]
    exact ⟨i15, rfl, N17, K19⟩
  · refine Go.st (t' := T14.setTop (mkF m 55 #[.val (.ref a0_), .val (.int i15)] [(.int i15), (.ref a0_)])) (fun target kt => ?_) ?_
    · refine XS.ifYes X14.here hx rfl (pc0 := 42) (pc' := 53) rfl (hb hby d13_42) rfl ((if0 _ _).trans (feq hc16).2) (by decide) (by decide) ?_
      refine XS.aloadN X14.here hx rfl (hb hby d13_53) rfl rfl ?_
      refine XS.iloadN X14.here hx rfl (hb hby d13_54) rfl ?_
      exact kt
    obtain ⟨T21, h21, X21, e21, W21, st21⟩ := putF X14 hx hZ hown (host := "") (Or.inl (hw _ tw95)) Via.refl eq14 Fh_a0_ E_a0_ (Or.inl (hw _ tw96)) (hw _ tw13) (ty := .int) (by decide) rfl rfl (g := (mkF m 55 #[.val (.ref a0_), .val (.int i15)] [(.int i15), (.ref a0_)])) rfl rfl (hb hby d13_55)
    have F22 : Fld Z h21 a0_ "java/lang/String" "hash" "I" (.int i15) := Fh_a0_.same W21
    have K23 := K0.wr W21 (Or.inl (List.mem_of_getElem? (i := 0) rfl))
    have O24 := O0.wr W21 g0
    have N21 := Fr.snoc X21 N14 g0
    refine Go.st st21 ?_
    show Go _ _ _ _ _ _ _ (T21.setTop (mkF m 58 _ []))
    refine Go.st (t' := T21.setTop (mkF m 59 #[.val (.ref a0_), .val (.int i15)] [(.int i15)])) (fun target kt => ?_) ?_
    · refine XS.iloadN X21.here hx rfl (hb hby d13_58) rfl ?_
      exact kt
    refine Go.ret X21 (v := some (.int i15)) (fun h => by rw [hret] at h; cases h) hlk (fun fs hr => retI X21 hx hret (hb hby d13_59) hr) ?_ (by decide) (by decide)
    show Q13 Z a0_ wcs v_ k_ x_ h0 n0 _ T21.heap _
    rw [e21]
    exact ⟨i15, rfl, N21, K23⟩
theorem d16_0 : decode prog_63_method_9_code 0 = .ok (.iconst 1, 1) := by decide +kernel
theorem d16_1 : decode prog_63_method_9_code 1 = .ok (.iload_n 0, 1) := by decide +kernel
theorem d16_2 : decode prog_63_method_9_code 2 = .ok (.iload_n 1, 1) := by decide +kernel
theorem d16_3 : decode prog_63_method_9_code 3 = .ok (.iushr, 1) := by decide +kernel
theorem d16_4 : decode prog_63_method_9_code 4 = .ok (.bipush 31, 2) := by decide +kernel
theorem d16_6 : decode prog_63_method_9_code 6 = .ok (.iand, 1) := by decide +kernel
theorem d16_7 : decode prog_63_method_9_code 7 = .ok (.ishl, 1) := by decide +kernel
theorem d16_8 : decode prog_63_method_9_code 8 = .ok (.ireturn, 1) := by decide +kernel
theorem ef16 (m : MethodId) (x0 : Int32) (x1 : Int32) : entryFrame m #[(.int x0), (.int x1)] 2 = mkF m 0 #[.val (.int x0), .val (.int x1)] [] := by first | (simp [entryFrame, mkF, argsToLocals, Value.category]; done) | rfl
def Q16 (Z : State) (p0 : Int32) (p1 : Int32) (h0 : Heap) (n0 : Nat) (v : Option Value) (h : Heap) (L : List Loc) : Prop := ∃ (z : Int32), v = some (.int z) ∧ Fr n0 L ∧ h = h0
theorem pn300 : plainName "com/example/graphweave/graphweave/jsonld/TermMap" = true := by first | (simp [plainName, overriddenIn]; done) | decide +kernel
theorem rm16 (l : Launch) (Z : State) (a0 : Array Value) (hw : ∀ d ∈ tables_1, d.before a0 Z = true) (ws : List Jvm.Cond) (p0 : Int32) (p1 : Int32) (h0 : Heap) (n0 : Nat) (Z0 : n0 ≤ h0.size) (O0 : Old Z n0 h0) :
    Met l Z ws (⟨"com/example/graphweave/graphweave/jsonld/TermMap", "bit", "(II)I"⟩ : MethodName) prog_63_method_9_code 2 (some .int) (Rm 0 0 0 0) #[(.int p0), (.int p1)] h0 (Q16 Z p0 p1 h0 n0) := by
  refine Met.enter (L0 := #[.val (.int p0), .val (.int p1)]) (plainFor_of_name pn300) (fun m => ef16 m p0 p1) ?_
  intro p e s m below meth c s₁ hx hby hml hown hnm hret hlk hZ X0 e0
  have N0 := Fr.nil n0
  have K0 : Keep h0 h0 [] := Keep.refl h0 _
  refine Go.st (t' := s₁.setTop (mkF m 8 #[.val (.int p0), .val (.int p1)] [(.int ((1 : Int32) <<< ((((p0.toUInt32 >>> (p1 &&& 31).toUInt32).toInt32) &&& (31 : Int32)) &&& 31)))])) (fun target kt => ?_) ?_
  · refine XS.iconst X0.here hx rfl (hb hby d16_0) ?_
    refine XS.iloadN X0.here hx rfl (hb hby d16_1) rfl ?_
    refine XS.iloadN X0.here hx rfl (hb hby d16_2) rfl ?_
    refine XS.iushr X0.here hx rfl (hb hby d16_3) rfl ?_
    refine XS.bipush X0.here hx rfl (hb hby d16_4) ?_
    refine XS.iand X0.here hx rfl (hb hby d16_6) rfl ?_
    refine XS.ishl X0.here hx rfl (hb hby d16_7) rfl ?_
    exact kt
  refine Go.ret X0 (v := some (.int ((1 : Int32) <<< ((((p0.toUInt32 >>> (p1 &&& 31).toUInt32).toInt32) &&& (31 : Int32)) &&& 31)))) (fun h => by rw [hret] at h; cases h) hlk (fun fs hr => retI X0 hx hret (hb hby d16_8) hr) ?_ (by decide) (by decide)
  show Q16 Z p0 p1 h0 n0 _ s₁.heap _
  rw [e0]
  exact ⟨((1 : Int32) <<< ((((p0.toUInt32 >>> (p1 &&& 31).toUInt32).toInt32) &&& (31 : Int32)) &&& 31)), rfl, N0, rfl⟩
theorem d12_0 : decode prog_63_method_2_code 0 = .ok (.aload_n 1, 1) := by decide +kernel
theorem d12_1 : decode prog_63_method_2_code 1 = .ok (.invokevirtual 17, 3) := by decide +kernel
theorem tw90 : (Jvm.Cond.methodLink "com/example/graphweave/graphweave/jsonld/TermMap" (17 : Nat) ({ cls := "java/lang/String", name := "hashCode", desc := "()I" } : Jvm.MethodName)) ∈ tables_1 := List.mem_of_getElem? (i := 90) rfl
theorem tw94 : (Jvm.Cond.code ({ cls := "java/lang/String", name := "hashCode", desc := "()I" } : Jvm.MethodName) jdk_42_method_78_code (2 : Nat) (Option.some Jvm.ClassFile.FieldType.int)) ∈ tables_1 := List.mem_of_getElem? (i := 94) rfl
theorem pd13 : parseMethodDescriptor "()I" = some ⟨[], some .int⟩ := by decide +kernel
theorem tw93 : (Jvm.Cond.selects "java/lang/String" ({ cls := "java/lang/String", name := "hashCode", desc := "()I" } : Jvm.MethodName) ({ cls := "java/lang/String", name := "hashCode", desc := "()I" } : Jvm.MethodName)) ∈ tables_1 := List.mem_of_getElem? (i := 93) rfl
theorem tw91 : (Jvm.Cond.declares ({ cls := "java/lang/String", name := "hashCode", desc := "()I" } : Jvm.MethodName)) ∈ tables_1 := List.mem_of_getElem? (i := 91) rfl
theorem tw92 : (Jvm.Cond.instanceMethod ({ cls := "java/lang/String", name := "hashCode", desc := "()I" } : Jvm.MethodName)) ∈ tables_1 := List.mem_of_getElem? (i := 92) rfl
theorem d12_4 : decode prog_63_method_2_code 4 = .ok (.istore_n 2, 1) := by decide +kernel
theorem d12_5 : decode prog_63_method_2_code 5 = .ok (.aload_n 0, 1) := by decide +kernel
theorem d12_6 : decode prog_63_method_2_code 6 = .ok (.getfield 9, 3) := by decide +kernel
theorem tw107 : (Jvm.Cond.fieldLink "com/example/graphweave/graphweave/jsonld/TermMap" (9 : Nat) "com/example/graphweave/graphweave/jsonld/TermMap" "root" "Lcom/example/graphweave/graphweave/jsonld/TermMap$Branch;") ∈ tables_1 := List.mem_of_getElem? (i := 107) rfl
theorem d12_9 : decode prog_63_method_2_code 9 = .ok (.astore_n 3, 1) := by decide +kernel
theorem d12_10 : decode prog_63_method_2_code 10 = .ok (.iconst 0, 1) := by decide +kernel
theorem d12_11 : decode prog_63_method_2_code 11 = .ok (.istore 4, 2) := by decide +kernel
theorem d12_13 : decode prog_63_method_2_code 13 = .ok (.aload_n 3, 1) := by decide +kernel
theorem d12_14 : decode prog_63_method_2_code 14 = .ok (.instanceof 23, 3) := by decide +kernel
theorem tw109 : (Jvm.Cond.classLink "com/example/graphweave/graphweave/jsonld/TermMap" (23 : Nat) "com/example/graphweave/graphweave/jsonld/TermMap$Branch") ∈ tables_1 := List.mem_of_getElem? (i := 109) rfl
theorem d12_17 : decode prog_63_method_2_code 17 = .ok (.ifCond .eq 50, 3) := by decide +kernel
theorem d12_20 : decode prog_63_method_2_code 20 = .ok (.aload_n 3, 1) := by decide +kernel
theorem d12_21 : decode prog_63_method_2_code 21 = .ok (.checkcast 23, 3) := by decide +kernel
theorem d12_24 : decode prog_63_method_2_code 24 = .ok (.astore 5, 2) := by decide +kernel
theorem d12_26 : decode prog_63_method_2_code 26 = .ok (.iload_n 2, 1) := by decide +kernel
theorem d12_27 : decode prog_63_method_2_code 27 = .ok (.iload 4, 2) := by decide +kernel
theorem d12_29 : decode prog_63_method_2_code 29 = .ok (.invokestatic 25, 3) := by decide +kernel
theorem tw111 : (Jvm.Cond.methodLink "com/example/graphweave/graphweave/jsonld/TermMap" (25 : Nat) ({ cls := "com/example/graphweave/graphweave/jsonld/TermMap", name := "bit", desc := "(II)I" } : Jvm.MethodName)) ∈ tables_1 := List.mem_of_getElem? (i := 111) rfl
theorem tw113 : (Jvm.Cond.code ({ cls := "com/example/graphweave/graphweave/jsonld/TermMap", name := "bit", desc := "(II)I" } : Jvm.MethodName) prog_63_method_9_code (2 : Nat) (Option.some Jvm.ClassFile.FieldType.int)) ∈ tables_1 := List.mem_of_getElem? (i := 113) rfl
theorem tw36 : (Jvm.Cond.initialized "com/example/graphweave/graphweave/jsonld/TermMap") ∈ tables_1 := List.mem_of_getElem? (i := 36) rfl
theorem pd14 : parseMethodDescriptor "(II)I" = some ⟨[.int, .int], some .int⟩ := by decide +kernel
theorem tw112 : (Jvm.Cond.static ({ cls := "com/example/graphweave/graphweave/jsonld/TermMap", name := "bit", desc := "(II)I" } : Jvm.MethodName)) ∈ tables_1 := List.mem_of_getElem? (i := 112) rfl
theorem d12_32 : decode prog_63_method_2_code 32 = .ok (.istore 6, 2) := by decide +kernel
theorem d12_34 : decode prog_63_method_2_code 34 = .ok (.aload 5, 2) := by decide +kernel
theorem d12_36 : decode prog_63_method_2_code 36 = .ok (.getfield 29, 3) := by decide +kernel
theorem tw114 : (Jvm.Cond.fieldLink "com/example/graphweave/graphweave/jsonld/TermMap" (29 : Nat) "com/example/graphweave/graphweave/jsonld/TermMap$Branch" "bitmap" "I") ∈ tables_1 := List.mem_of_getElem? (i := 114) rfl
theorem d12_39 : decode prog_63_method_2_code 39 = .ok (.iload 6, 2) := by decide +kernel
theorem d12_41 : decode prog_63_method_2_code 41 = .ok (.iand, 1) := by decide +kernel
theorem d12_42 : decode prog_63_method_2_code 42 = .ok (.ifCond .ne 5, 3) := by decide +kernel
theorem d12_45 : decode prog_63_method_2_code 45 = .ok (.aconst_null, 1) := by decide +kernel
theorem d12_46 : decode prog_63_method_2_code 46 = .ok (.areturn, 1) := by decide +kernel
theorem ef12 (m : MethodId) (x0 : Addr) (x1 : Addr) : entryFrame m #[(.ref x0), (.ref x1)] 7 = mkF m 0 #[.val (.ref x0), .val (.ref x1), .unset, .unset, .unset, .unset, .unset] [] := by first | (simp [entryFrame, mkF, argsToLocals, Value.category]; done) | rfl
def Q12 (Z : State) (wt : Addr) (a1_ : Addr) (wcs : Int32) (wr : Addr) (v_ : Addr) (k_ : ClassId) (x_ : Int32) (h0 : Heap) (n0 : Nat) (v : Option Value) (h : Heap) (L : List Loc) : Prop := v = some .null ∧ Fr n0 L ∧ Keep h0 h [a1_]
theorem rm12 (l : Launch) (Z : State) (a0 : Array Value) (hw : ∀ d ∈ tables_1, d.before a0 Z = true) (ws : List Jvm.Cond) (wt : Addr) (a1_ : Addr) (wcs : Int32) (wr : Addr) (v_ : Addr) (k_ : ClassId) (x_ : Int32) (h0 : Heap) (n0 : Nat) (Z0 : n0 ≤ h0.size) (O0 : Old Z n0 h0) (S_CS : Sta Z Z.heap "java/lang/String" "COMPACT_STRINGS" "Z" (.int wcs)) (hcs : ¬ (wcs = (0 : Int32))) (E_wt : Exa Z Z.heap wt "com/example/graphweave/graphweave/jsonld/TermMap") (F_wt : Fld Z Z.heap wt "com/example/graphweave/graphweave/jsonld/TermMap" "root" "Lcom/example/graphweave/graphweave/jsonld/TermMap$Branch;" (.ref wr)) (E_wr : Exa Z Z.heap wr "com/example/graphweave/graphweave/jsonld/TermMap$Branch") (F_wr : Fld Z Z.heap wr "com/example/graphweave/graphweave/jsonld/TermMap$Branch" "bitmap" "I" (.int 0)) (g1 : n0 ≤ a1_) (E_a0_ : Exa Z h0 a1_ "java/lang/String") (Fv_a0_ : Fld Z h0 a1_ "java/lang/String" "value" "[B" (.ref v_)) (Fc_a0_ : Fld Z h0 a1_ "java/lang/String" "coder" "B" (.int 0)) (Fh_a0_ : Fld Z h0 a1_ "java/lang/String" "hash" "I" (.int 0)) (Fz_a0_ : Fld Z h0 a1_ "java/lang/String" "hashIsZero" "Z" (.int 0)) (V : Arv Z h0 v_ k_ .byte (1 : Int32) [(.int x_)] (.int 0)) :
    Met l Z ws (⟨"com/example/graphweave/graphweave/jsonld/TermMap", "get", "(Ljava/lang/String;)Lcom/example/graphweave/graphweave/jsonld/TermDefinition;"⟩ : MethodName) prog_63_method_2_code 7 (some (.object "com/example/graphweave/graphweave/jsonld/TermDefinition")) (Rm 2 0 0 25) #[(.ref wt), (.ref a1_)] h0 (Q12 Z wt a1_ wcs wr v_ k_ x_ h0 n0) := by
  refine Met.enter (L0 := #[.val (.ref wt), .val (.ref a1_), .unset, .unset, .unset, .unset, .unset]) (plainFor_of_name pn300) (fun m => ef12 m wt a1_) ?_
  intro p e s m below meth c s₁ hx hby hml hown hnm hret hlk hZ X0 e0
  have N0 := Fr.nil n0
  have K0 : Keep h0 h0 [a1_] := Keep.refl h0 _
  refine Go.st (t' := s₁.setTop (mkF m 1 #[.val (.ref wt), .val (.ref a1_), .unset, .unset, .unset, .unset, .unset] [(.ref a1_)])) (fun target kt => ?_) ?_
  · refine XS.aloadN X0.here hx rfl (hb hby d12_0) rfl rfl ?_
    exact kt
  obtain ⟨cq10, kq10, q10a, q10b, q10c⟩ := isOf hZ e0 E_a0_
  obtain ⟨_, _, ⟨T10, L10, k10, n10⟩, -, X10, ⟨Lc10, hQ10, l10, y10, z10⟩, st10⟩ := X0.virtualBack hx (y := (⟨"java/lang/String", "hashCode", "()I"⟩ : MethodName)) (z := (⟨"java/lang/String", "hashCode", "()I"⟩ : MethodName)) hown (mvT hZ (hw _ tw90)) (mvT hZ (hw _ tw91)) (notFace_of_selects (args := #[]) (mvT hZ (hw _ tw93))) (mvT hZ (hw _ tw93)) (mvT hZ (hw _ tw92)) (by decide) (backOf (W := 0) (rm13 l Z a0 hw [] a1_ wcs v_ k_ x_ h0 n0 (Nat.le_trans Z0 K0.1) O0 S_CS hcs g1 E_a0_ Fv_a0_ Fc_a0_ Fh_a0_ Fz_a0_ V) hZ (hw _ tw94) (hw _ tw5) (by decide) (by decide)) q10a q10c (g := (mkF m 1 #[.val (.ref wt), .val (.ref a1_), .unset, .unset, .unset, .unset, .unset] [(.ref a1_)])) rfl (by rw [hml]; rfl) (Steps.refl _) (argsL := []) (rest := []) (lenOf pd13 rfl) rfl (by show 2 * 0 + _ ≤ _; exact Nat.le_of_eq rfl) (hb hby d12_1) (fun _ _ => ⟨rfl, e0, (by decide : 0 + 0 ≤ _), (by decide : 0 + 0 ≤ _)⟩)
  dsimp only [Pt.U, Pt.locs, Pt.cells, Pt.slots] at X10 l10 y10 z10 st10 hQ10
  subst l10 y10 z10
  obtain ⟨i11, rfl, Nq10, Kq10⟩ := hQ10
  have N10 := Fr.app N0 Nq10
  have K12 := K0.trans Kq10 (allS (Or.inl (List.mem_of_getElem? (i := 0) rfl)) all0)
  have O13 := O0.keep Kq10 (allS g1 all0)
  refine Go.by st10 ?_
  show Go _ _ _ _ _ _ _ (T10.setTop (mkF m 4 _ [(.int i11)]))
  refine Go.st (t' := T10.setTop (mkF m 6 #[.val (.ref wt), .val (.ref a1_), .val (.int i11), .unset, .unset, .unset, .unset] [(.ref wt)])) (fun target kt => ?_) ?_
  · refine XS.istoreN X10.here hx rfl (hb hby d12_4) rfl (l' := #[.val (.ref wt), .val (.ref a1_), .val (.int i11), .unset, .unset, .unset, .unset]) rfl ?_
    refine XS.aloadN X10.here hx rfl (hb hby d12_5) rfl rfl ?_
    exact kt
  obtain ⟨T14, X14, e14, st14⟩ := getF X10 hx hZ hown (host := "") (Or.inl (hw _ tw107)) Via.refl rfl (F_wt.ext O13.2) (g := (mkF m 6 #[.val (.ref wt), .val (.ref a1_), .val (.int i11), .unset, .unset, .unset, .unset] [(.ref wt)])) rfl rfl (hb hby d12_6)
  refine Go.st st14 ?_
  show Go _ _ _ _ _ _ _ (T14.setTop (mkF m 9 _ [(.ref wr)]))
  refine Go.st (t' := T14.setTop (mkF m 14 #[.val (.ref wt), .val (.ref a1_), .val (.int i11), .val (.ref wr), .val (.int 0), .unset, .unset] [(.ref wr)])) (fun target kt => ?_) ?_
  · refine XS.astoreN X14.here hx rfl (hb hby d12_9) rfl rfl (l' := #[.val (.ref wt), .val (.ref a1_), .val (.int i11), .val (.ref wr), .unset, .unset, .unset]) rfl ?_
    refine XS.iconst X14.here hx rfl (hb hby d12_10) ?_
    refine XS.istore X14.here hx rfl (hb hby d12_11) rfl (l' := #[.val (.ref wt), .val (.ref a1_), .val (.int i11), .val (.ref wr), .val (.int 0), .unset, .unset]) rfl ?_
    refine XS.aloadN X14.here hx rfl (hb hby d12_13) rfl rfl ?_
    exact kt
  obtain ⟨T15, X15, e15, st15⟩ := instY X14 hx hZ hown (hw _ tw109) e14 (Ins.self (E_wr.ext O13.2)) (g := (mkF m 14 #[.val (.ref wt), .val (.ref a1_), .val (.int i11), .val (.ref wr), .val (.int 0), .unset, .unset] [(.ref wr)])) rfl rfl (hb hby d12_14)
  refine Go.st st15 ?_
  show Go _ _ _ _ _ _ _ (T15.setTop (mkF m 17 _ [(.int 1)]))
  refine Go.st (t' := T15.setTop (mkF m 21 #[.val (.ref wt), .val (.ref a1_), .val (.int i11), .val (.ref wr), .val (.int 0), .unset, .unset] [(.ref wr)])) (fun target kt => ?_) ?_
  · refine XS.ifNo X15.here hx rfl (hb hby d12_17) rfl ((if0 _ _).trans (feq (by decide : ¬ ((1 : Int32) = (0 : Int32)))).1) ?_
    refine XS.aloadN X15.here hx rfl (hb hby d12_20) rfl rfl ?_
    exact kt
  obtain ⟨T16, X16, e16, st16⟩ := castY X15 hx hZ hown (hw _ tw109) e15 (Ins.self (E_wr.ext O13.2)) (g := (mkF m 21 #[.val (.ref wt), .val (.ref a1_), .val (.int i11), .val (.ref wr), .val (.int 0), .unset, .unset] [(.ref wr)])) rfl rfl (hb hby d12_21)
  refine Go.st st16 ?_
  show Go _ _ _ _ _ _ _ (T16.setTop (mkF m 24 _ [(.ref wr)]))
  refine Go.st (t' := T16.setTop (mkF m 29 #[.val (.ref wt), .val (.ref a1_), .val (.int i11), .val (.ref wr), .val (.int 0), .val (.ref wr), .unset] [(.int 0), (.int i11)])) (fun target kt => ?_) ?_
  · refine XS.astore X16.here hx rfl (hb hby d12_24) rfl rfl (l' := #[.val (.ref wt), .val (.ref a1_), .val (.int i11), .val (.ref wr), .val (.int 0), .val (.ref wr), .unset]) rfl ?_
    refine XS.iloadN X16.here hx rfl (hb hby d12_26) rfl ?_
    refine XS.iload X16.here hx rfl (hb hby d12_27) rfl ?_
    exact kt
  obtain ⟨_, _, ⟨T17, L17, k17, n17⟩, -, X17, ⟨Lc17, hQ17, l17, y17, z17⟩, st17⟩ := Jvm.LawKit.callS X16 hx (y := (⟨"com/example/graphweave/graphweave/jsonld/TermMap", "bit", "(II)I"⟩ : MethodName)) hown (mvT hZ (hw _ tw111)) (mvT hZ (hw _ tw112)) (mvT hZ (hw _ tw36)) (mvT hZ (hw _ tw113)) (by decide) (backOf (W := 0) (rm16 l Z a0 hw [] i11 (0 : Int32) T10.heap n0 (Nat.le_trans Z0 K12.1) O13  ) hZ (hw _ tw113) (hw _ tw36) (by decide) (by decide)) (g := (mkF m 29 #[.val (.ref wt), .val (.ref a1_), .val (.int i11), .val (.ref wr), .val (.int 0), .val (.ref wr), .unset] [(.int 0), (.int i11)])) rfl (by rw [hml]; rfl) (argsL := [(.int i11), (.int 0)]) (rest := []) (lenOf pd14 rfl) rfl (by show 2 * 0 + _ ≤ _; exact Nat.le_of_eq rfl) (hb hby d12_29) (fun _ _ => ⟨rfl, e16, (by decide : 0 + 0 ≤ _), (by decide : 0 + 0 ≤ _)⟩)
  dsimp only [Pt.U, Pt.locs, Pt.cells, Pt.slots] at X17 l17 y17 z17 st17 hQ17
  subst l17 y17 z17
  obtain ⟨i18, rfl, Nq17, eq17⟩ := hQ17
  have N17 := Fr.app N10 Nq17
  refine Go.st st17 ?_
  show Go _ _ _ _ _ _ _ (T17.setTop (mkF m 32 _ [(.int i18)]))
  refine Go.st (t' := T17.setTop (mkF m 36 #[.val (.ref wt), .val (.ref a1_), .val (.int i11), .val (.ref wr), .val (.int 0), .val (.ref wr), .val (.int i18)] [(.ref wr)])) (fun target kt => ?_) ?_
  · refine XS.istore X17.here hx rfl (hb hby d12_32) rfl (l' := #[.val (.ref wt), .val (.ref a1_), .val (.int i11), .val (.ref wr), .val (.int 0), .val (.ref wr), .val (.int i18)]) rfl ?_
    refine XS.aload X17.here hx rfl (hb hby d12_34) rfl rfl ?_
    exact kt
  obtain ⟨T19, X19, e19, st19⟩ := getF X17 hx hZ hown (host := "") (Or.inl (hw _ tw114)) Via.refl eq17 (F_wr.ext O13.2) (g := (mkF m 36 #[.val (.ref wt), .val (.ref a1_), .val (.int i11), .val (.ref wr), .val (.int 0), .val (.ref wr), .val (.int i18)] [(.ref wr)])) rfl rfl (hb hby d12_36)
  refine Go.st st19 ?_
  show Go _ _ _ _ _ _ _ (T19.setTop (mkF m 39 _ [(.int 0)]))
  refine Go.st (t' := T19.setTop (mkF m 46 #[.val (.ref wt), .val (.ref a1_), .val (.int i11), .val (.ref wr), .val (.int 0), .val (.ref wr), .val (.int i18)] [.null])) (fun target kt => ?_) ?_
  · refine XS.iload X19.here hx rfl (hb hby d12_39) rfl ?_
    refine XS.iand X19.here hx rfl (hb hby d12_41) rfl ?_
    refine XS.ifNo X19.here hx rfl (hb hby d12_42) rfl ((if0 _ _).trans (teq (own_zand i18)).2) ?_
    refine XS.aconstNull X19.here hx rfl (hb hby d12_45) ?_
    exact kt
  refine Go.ret X19 (v := some .null) (fun h => by rw [hret] at h; cases h) hlk (fun fs hr => retR X19 hx hret rfl rfl (hb hby d12_46) hr) ?_ (by decide) (by decide)
  show Q12 Z wt a1_ wcs wr v_ k_ x_ h0 n0 _ T19.heap _
  rw [e19]
  exact ⟨rfl, N17, K12⟩
theorem d11_0 : decode prog_28_method_13_code 0 = .ok (.aload_n 1, 1) := by decide +kernel
theorem d11_1 : decode prog_28_method_13_code 1 = .ok (.ifnonnull 7, 3) := by decide +kernel
theorem d11_4 : decode prog_28_method_13_code 4 = .ok (.aconst_null, 1) := by decide +kernel
theorem d11_5 : decode prog_28_method_13_code 5 = .ok (.goto 11, 3) := by decide +kernel
theorem d11_16 : decode prog_28_method_13_code 16 = .ok (.areturn, 1) := by decide +kernel
theorem ef11_n (m : MethodId) (x0 : Addr) : entryFrame m #[(.ref x0), .null] 2 = mkF m 0 #[.val (.ref x0), .val .null] [] := by first | (simp [entryFrame, mkF, argsToLocals, Value.category]; done) | rfl
def Q11_n (Z : State) (a0_ : Addr) (h0 : Heap) (n0 : Nat) (v : Option Value) (h : Heap) (L : List Loc) : Prop := v = some .null ∧ Fr n0 L ∧ h = h0
theorem rm11_n (l : Launch) (Z : State) (a0 : Array Value) (hw : ∀ d ∈ tables_1, d.before a0 Z = true) (ws : List Jvm.Cond) (a0_ : Addr) (h0 : Heap) (n0 : Nat) (Z0 : n0 ≤ h0.size) (O0 : Old Z n0 h0) :
    Met l Z ws (⟨"com/example/graphweave/graphweave/jsonld/ActiveContext", "term", "(Ljava/lang/String;)Lcom/example/graphweave/graphweave/jsonld/TermDefinition;"⟩ : MethodName) prog_28_method_13_code 2 (some (.object "com/example/graphweave/graphweave/jsonld/TermDefinition")) (Rm 0 0 0 0) #[(.ref a0_), .null] h0 (Q11_n Z a0_ h0 n0) := by
  refine Met.enter (L0 := #[.val (.ref a0_), .val .null]) (plainFor_of_name pn226) (fun m => ef11_n m a0_) ?_
  intro p e s m below meth c s₁ hx hby hml hown hnm hret hlk hZ X0 e0
  have N0 := Fr.nil n0
  have K0 : Keep h0 h0 [] := Keep.refl h0 _
  refine Go.st (t' := s₁.setTop (mkF m 16 #[.val (.ref a0_), .val .null] [.null])) (fun target kt => ?_) ?_
  · refine XS.aloadN X0.here hx rfl (hb hby d11_0) rfl rfl ?_
    refine XS.ifnonnullNo X0.here hx rfl (hb hby d11_1) rfl ?_
    refine XS.aconstNull X0.here hx rfl (hb hby d11_4) ?_
    refine XS.goto X0.here hx rfl (pc0 := 5) (pc' := 16) rfl (hb hby d11_5) (by decide) (by decide) ?_
    exact kt
  refine Go.ret X0 (v := some .null) (fun h => by rw [hret] at h; cases h) hlk (fun fs hr => retR X0 hx hret rfl rfl (hb hby d11_16) hr) ?_ (by decide) (by decide)
  show Q11_n Z a0_ h0 n0 _ s₁.heap _
  rw [e0]
  exact ⟨rfl, N0, rfl⟩
theorem d11_8 : decode prog_28_method_13_code 8 = .ok (.aload_n 0, 1) := by decide +kernel
theorem d11_9 : decode prog_28_method_13_code 9 = .ok (.getfield 20, 3) := by decide +kernel
theorem d11_12 : decode prog_28_method_13_code 12 = .ok (.aload_n 1, 1) := by decide +kernel
theorem d11_13 : decode prog_28_method_13_code 13 = .ok (.invokevirtual 108, 3) := by decide +kernel
theorem tw85 : (Jvm.Cond.methodLink "com/example/graphweave/graphweave/jsonld/ActiveContext" (108 : Nat) ({ cls := "com/example/graphweave/graphweave/jsonld/TermMap", name := "get", desc := "(Ljava/lang/String;)Lcom/example/graphweave/graphweave/jsonld/TermDefinition;" } : Jvm.MethodName)) ∈ tables_1 := List.mem_of_getElem? (i := 85) rfl
theorem tw89 : (Jvm.Cond.code ({ cls := "com/example/graphweave/graphweave/jsonld/TermMap", name := "get", desc := "(Ljava/lang/String;)Lcom/example/graphweave/graphweave/jsonld/TermDefinition;" } : Jvm.MethodName) prog_63_method_2_code (7 : Nat) (Option.some (Jvm.ClassFile.FieldType.object "com/example/graphweave/graphweave/jsonld/TermDefinition"))) ∈ tables_1 := List.mem_of_getElem? (i := 89) rfl
theorem pd15 : parseMethodDescriptor "(Ljava/lang/String;)Lcom/example/graphweave/graphweave/jsonld/TermDefinition;" = some ⟨[(.object "java/lang/String")], some (.object "com/example/graphweave/graphweave/jsonld/TermDefinition")⟩ := by decide +kernel
theorem tw88 : (Jvm.Cond.selects "com/example/graphweave/graphweave/jsonld/TermMap" ({ cls := "com/example/graphweave/graphweave/jsonld/TermMap", name := "get", desc := "(Ljava/lang/String;)Lcom/example/graphweave/graphweave/jsonld/TermDefinition;" } : Jvm.MethodName) ({ cls := "com/example/graphweave/graphweave/jsonld/TermMap", name := "get", desc := "(Ljava/lang/String;)Lcom/example/graphweave/graphweave/jsonld/TermDefinition;" } : Jvm.MethodName)) ∈ tables_1 := List.mem_of_getElem? (i := 88) rfl
theorem tw86 : (Jvm.Cond.declares ({ cls := "com/example/graphweave/graphweave/jsonld/TermMap", name := "get", desc := "(Ljava/lang/String;)Lcom/example/graphweave/graphweave/jsonld/TermDefinition;" } : Jvm.MethodName)) ∈ tables_1 := List.mem_of_getElem? (i := 86) rfl
theorem tw87 : (Jvm.Cond.instanceMethod ({ cls := "com/example/graphweave/graphweave/jsonld/TermMap", name := "get", desc := "(Ljava/lang/String;)Lcom/example/graphweave/graphweave/jsonld/TermDefinition;" } : Jvm.MethodName)) ∈ tables_1 := List.mem_of_getElem? (i := 87) rfl
theorem ef11_r (m : MethodId) (x0 : Addr) (x1 : Addr) : entryFrame m #[(.ref x0), (.ref x1)] 2 = mkF m 0 #[.val (.ref x0), .val (.ref x1)] [] := by first | (simp [entryFrame, mkF, argsToLocals, Value.category]; done) | rfl
def Q11_r (Z : State) (a0_ : Addr) (a1_ : Addr) (wcs : Int32) (wt : Addr) (wr : Addr) (v_ : Addr) (k_ : ClassId) (x_ : Int32) (h0 : Heap) (n0 : Nat) (v : Option Value) (h : Heap) (L : List Loc) : Prop := v = some .null ∧ Fr n0 L ∧ Keep h0 h [a1_]
theorem rm11_r (l : Launch) (Z : State) (a0 : Array Value) (hw : ∀ d ∈ tables_1, d.before a0 Z = true) (ws : List Jvm.Cond) (a0_ : Addr) (a1_ : Addr) (wcs : Int32) (wt : Addr) (wr : Addr) (v_ : Addr) (k_ : ClassId) (x_ : Int32) (h0 : Heap) (n0 : Nat) (Z0 : n0 ≤ h0.size) (O0 : Old Z n0 h0) (S_CS : Sta Z Z.heap "java/lang/String" "COMPACT_STRINGS" "Z" (.int wcs)) (hcs : ¬ (wcs = (0 : Int32))) (E_wt : Exa Z Z.heap wt "com/example/graphweave/graphweave/jsonld/TermMap") (F_wt : Fld Z Z.heap wt "com/example/graphweave/graphweave/jsonld/TermMap" "root" "Lcom/example/graphweave/graphweave/jsonld/TermMap$Branch;" (.ref wr)) (E_wr : Exa Z Z.heap wr "com/example/graphweave/graphweave/jsonld/TermMap$Branch") (F_wr : Fld Z Z.heap wr "com/example/graphweave/graphweave/jsonld/TermMap$Branch" "bitmap" "I" (.int 0)) (g1 : n0 ≤ a1_) (F_t : Fld Z h0 a0_ "com/example/graphweave/graphweave/jsonld/ActiveContext" "terms" "Lcom/example/graphweave/graphweave/jsonld/TermMap;" (.ref wt)) (E_a0_ : Exa Z h0 a1_ "java/lang/String") (Fv_a0_ : Fld Z h0 a1_ "java/lang/String" "value" "[B" (.ref v_)) (Fc_a0_ : Fld Z h0 a1_ "java/lang/String" "coder" "B" (.int 0)) (Fh_a0_ : Fld Z h0 a1_ "java/lang/String" "hash" "I" (.int 0)) (Fz_a0_ : Fld Z h0 a1_ "java/lang/String" "hashIsZero" "Z" (.int 0)) (V : Arv Z h0 v_ k_ .byte (1 : Int32) [(.int x_)] (.int 0)) :
    Met l Z ws (⟨"com/example/graphweave/graphweave/jsonld/ActiveContext", "term", "(Ljava/lang/String;)Lcom/example/graphweave/graphweave/jsonld/TermDefinition;"⟩ : MethodName) prog_28_method_13_code 2 (some (.object "com/example/graphweave/graphweave/jsonld/TermDefinition")) (Rm 3 0 0 43) #[(.ref a0_), (.ref a1_)] h0 (Q11_r Z a0_ a1_ wcs wt wr v_ k_ x_ h0 n0) := by
  refine Met.enter (L0 := #[.val (.ref a0_), .val (.ref a1_)]) (plainFor_of_name pn226) (fun m => ef11_r m a0_ a1_) ?_
  intro p e s m below meth c s₁ hx hby hml hown hnm hret hlk hZ X0 e0
  have N0 := Fr.nil n0
  have K0 : Keep h0 h0 [a1_] := Keep.refl h0 _
  refine Go.st (t' := s₁.setTop (mkF m 9 #[.val (.ref a0_), .val (.ref a1_)] [(.ref a0_)])) (fun target kt => ?_) ?_
  · refine XS.aloadN X0.here hx rfl (hb hby d11_0) rfl rfl ?_
    refine XS.ifnonnullYes X0.here hx rfl (pc0 := 1) (pc' := 8) rfl (hb hby d11_1) rfl (by decide) (by decide) ?_
    refine XS.aloadN X0.here hx rfl (hb hby d11_8) rfl rfl ?_
    exact kt
  obtain ⟨T10, X10, e10, st10⟩ := getF X0 hx hZ hown (host := "") (Or.inl (hw _ tw48)) Via.refl e0 F_t (g := (mkF m 9 #[.val (.ref a0_), .val (.ref a1_)] [(.ref a0_)])) rfl rfl (hb hby d11_9)
  refine Go.st st10 ?_
  show Go _ _ _ _ _ _ _ (T10.setTop (mkF m 12 _ [(.ref wt)]))
  refine Go.st (t' := T10.setTop (mkF m 13 #[.val (.ref a0_), .val (.ref a1_)] [(.ref a1_), (.ref wt)])) (fun target kt => ?_) ?_
  · refine XS.aloadN X10.here hx rfl (hb hby d11_12) rfl rfl ?_
    exact kt
  obtain ⟨cq11, kq11, q11a, q11b, q11c⟩ := isOf hZ e10 (E_wt.ext O0.2)
  obtain ⟨_, _, ⟨T11, L11, k11, n11⟩, -, X11, ⟨Lc11, hQ11, l11, y11, z11⟩, st11⟩ := X10.virtualBack hx (y := (⟨"com/example/graphweave/graphweave/jsonld/TermMap", "get", "(Ljava/lang/String;)Lcom/example/graphweave/graphweave/jsonld/TermDefinition;"⟩ : MethodName)) (z := (⟨"com/example/graphweave/graphweave/jsonld/TermMap", "get", "(Ljava/lang/String;)Lcom/example/graphweave/graphweave/jsonld/TermDefinition;"⟩ : MethodName)) hown (mvT hZ (hw _ tw85)) (mvT hZ (hw _ tw86)) (notFace_of_selects (args := #[]) (mvT hZ (hw _ tw88))) (mvT hZ (hw _ tw88)) (mvT hZ (hw _ tw87)) (by decide) (backOf (W := 0) (rm12 l Z a0 hw [] wt a1_ wcs wr v_ k_ x_ h0 n0 (Nat.le_trans Z0 K0.1) O0 S_CS hcs E_wt F_wt E_wr F_wr g1 E_a0_ Fv_a0_ Fc_a0_ Fh_a0_ Fz_a0_ V) hZ (hw _ tw89) (hw _ tw36) (by decide) (by decide)) q11a q11c (g := (mkF m 13 #[.val (.ref a0_), .val (.ref a1_)] [(.ref a1_), (.ref wt)])) rfl (by rw [hml]; rfl) (Steps.refl _) (argsL := [(.ref a1_)]) (rest := []) (lenOf pd15 rfl) rfl (by show 2 * 0 + _ ≤ _; exact Nat.le_of_eq rfl) (hb hby d11_13) (fun _ _ => ⟨rfl, e10, (by decide : 0 + 0 ≤ _), (by decide : 0 + 0 ≤ _)⟩)
  dsimp only [Pt.U, Pt.locs, Pt.cells, Pt.slots] at X11 l11 y11 z11 st11 hQ11
  subst l11 y11 z11
  obtain ⟨rfl, Nq11, Kq11⟩ := hQ11
  have N11 := Fr.app N0 Nq11
  have K12 := K0.trans Kq11 (allS (Or.inl (List.mem_of_getElem? (i := 0) rfl)) all0)
  have O13 := O0.keep Kq11 (allS g1 all0)
  refine Go.by st11 ?_
  show Go _ _ _ _ _ _ _ (T11.setTop (mkF m 16 _ [.null]))
  refine Go.ret X11 (v := some .null) (fun h => by rw [hret] at h; cases h) hlk (fun fs hr => retR X11 hx hret rfl rfl (hb hby d11_16) hr) ?_ (by decide) (by decide)
  show Q11_r Z a0_ a1_ wcs wt wr v_ k_ x_ h0 n0 _ T11.heap _
  exact ⟨rfl, N11, K12⟩
theorem tw118 : (Jvm.Cond.methodLink "com/example/graphweave/graphweave/jsonld/ActiveContextInitialPinLaw" (7 : Nat) ({ cls := "com/example/graphweave/graphweave/jsonld/ActiveContextInitialPinLaw", name := "str", desc := "(IIII)Ljava/lang/String;" } : Jvm.MethodName)) ∈ tables_1 := List.mem_of_getElem? (i := 118) rfl
theorem tw120 : (Jvm.Cond.code ({ cls := "com/example/graphweave/graphweave/jsonld/ActiveContextInitialPinLaw", name := "str", desc := "(IIII)Ljava/lang/String;" } : Jvm.MethodName) method_4_code (7 : Nat) (Option.some (Jvm.ClassFile.FieldType.object "java/lang/String"))) ∈ tables_1 := List.mem_of_getElem? (i := 120) rfl
theorem tw57 : (Jvm.Cond.initialized "com/example/graphweave/graphweave/jsonld/ActiveContextInitialPinLaw") ∈ tables_1 := List.mem_of_getElem? (i := 57) rfl
theorem pd16 : parseMethodDescriptor "(IIII)Ljava/lang/String;" = some ⟨[.int, .int, .int, .int], some (.object "java/lang/String")⟩ := by decide +kernel
theorem tw119 : (Jvm.Cond.static ({ cls := "com/example/graphweave/graphweave/jsonld/ActiveContextInitialPinLaw", name := "str", desc := "(IIII)Ljava/lang/String;" } : Jvm.MethodName)) ∈ tables_1 := List.mem_of_getElem? (i := 119) rfl
theorem tw0 : (Jvm.Cond.fieldLink "com/example/graphweave/graphweave/jsonld/ActiveContextInitialPinLaw" (19 : Nat) "com/example/graphweave/graphweave/jsonld/ProcessingMode" "JSON_LD_1_0" "Lcom/example/graphweave/graphweave/jsonld/ProcessingMode;") ∈ tables_1 := List.mem_of_getElem? (i := 0) rfl
theorem tw29 : (Jvm.Cond.methodLink "com/example/graphweave/graphweave/jsonld/ActiveContextInitialPinLaw" (28 : Nat) ({ cls := "com/example/graphweave/graphweave/jsonld/ActiveContext", name := "initial", desc := "(Ljava/lang/String;Lcom/example/graphweave/graphweave/jsonld/ProcessingMode;)Lcom/example/graphweave/graphweave/jsonld/ActiveContext;" } : Jvm.MethodName)) ∈ tables_1 := List.mem_of_getElem? (i := 29) rfl
theorem tw32 : (Jvm.Cond.code ({ cls := "com/example/graphweave/graphweave/jsonld/ActiveContext", name := "initial", desc := "(Ljava/lang/String;Lcom/example/graphweave/graphweave/jsonld/ProcessingMode;)Lcom/example/graphweave/graphweave/jsonld/ActiveContext;" } : Jvm.MethodName) prog_28_method_2_code (2 : Nat) (Option.some (Jvm.ClassFile.FieldType.object "com/example/graphweave/graphweave/jsonld/ActiveContext"))) ∈ tables_1 := List.mem_of_getElem? (i := 32) rfl
theorem pd17 : parseMethodDescriptor "(Ljava/lang/String;Lcom/example/graphweave/graphweave/jsonld/ProcessingMode;)Lcom/example/graphweave/graphweave/jsonld/ActiveContext;" = some ⟨[(.object "java/lang/String"), (.object "com/example/graphweave/graphweave/jsonld/ProcessingMode")], some (.object "com/example/graphweave/graphweave/jsonld/ActiveContext")⟩ := by decide +kernel
theorem tw30 : (Jvm.Cond.static ({ cls := "com/example/graphweave/graphweave/jsonld/ActiveContext", name := "initial", desc := "(Ljava/lang/String;Lcom/example/graphweave/graphweave/jsonld/ProcessingMode;)Lcom/example/graphweave/graphweave/jsonld/ActiveContext;" } : Jvm.MethodName)) ∈ tables_1 := List.mem_of_getElem? (i := 30) rfl
theorem tw54 : (Jvm.Cond.fieldLink "com/example/graphweave/graphweave/jsonld/ActiveContextInitialPinLaw" (34 : Nat) "com/example/graphweave/graphweave/jsonld/ActiveContext" "originalBaseUrl" "Ljava/lang/String;") ∈ tables_1 := List.mem_of_getElem? (i := 54) rfl
theorem tw55 : (Jvm.Cond.methodLink "com/example/graphweave/graphweave/jsonld/ActiveContextInitialPinLaw" (38 : Nat) ({ cls := "com/example/graphweave/graphweave/jsonld/ActiveContextInitialPinLaw", name := "same", desc := "(Ljava/lang/String;Ljava/lang/String;)Z" } : Jvm.MethodName)) ∈ tables_1 := List.mem_of_getElem? (i := 55) rfl
theorem tw58 : (Jvm.Cond.code ({ cls := "com/example/graphweave/graphweave/jsonld/ActiveContextInitialPinLaw", name := "same", desc := "(Ljava/lang/String;Ljava/lang/String;)Z" } : Jvm.MethodName) method_3_code (2 : Nat) (Option.some Jvm.ClassFile.FieldType.boolean)) ∈ tables_1 := List.mem_of_getElem? (i := 58) rfl
theorem pd18 : parseMethodDescriptor "(Ljava/lang/String;Ljava/lang/String;)Z" = some ⟨[(.object "java/lang/String"), (.object "java/lang/String")], some .boolean⟩ := by decide +kernel
theorem tw56 : (Jvm.Cond.static ({ cls := "com/example/graphweave/graphweave/jsonld/ActiveContextInitialPinLaw", name := "same", desc := "(Ljava/lang/String;Ljava/lang/String;)Z" } : Jvm.MethodName)) ∈ tables_1 := List.mem_of_getElem? (i := 56) rfl
theorem tw59 : (Jvm.Cond.fieldLink "com/example/graphweave/graphweave/jsonld/ActiveContextInitialPinLaw" (42 : Nat) "com/example/graphweave/graphweave/jsonld/ActiveContext" "baseIri" "Ljava/lang/String;") ∈ tables_1 := List.mem_of_getElem? (i := 59) rfl
theorem tw60 : (Jvm.Cond.fieldLink "com/example/graphweave/graphweave/jsonld/ActiveContextInitialPinLaw" (45 : Nat) "com/example/graphweave/graphweave/jsonld/ActiveContext" "processingMode" "Lcom/example/graphweave/graphweave/jsonld/ProcessingMode;") ∈ tables_1 := List.mem_of_getElem? (i := 60) rfl
theorem tw61 : (Jvm.Cond.methodLink "com/example/graphweave/graphweave/jsonld/ActiveContextInitialPinLaw" (48 : Nat) ({ cls := "com/example/graphweave/graphweave/jsonld/ActiveContext", name := "isJsonLd10", desc := "()Z" } : Jvm.MethodName)) ∈ tables_1 := List.mem_of_getElem? (i := 61) rfl
theorem tw65 : (Jvm.Cond.code ({ cls := "com/example/graphweave/graphweave/jsonld/ActiveContext", name := "isJsonLd10", desc := "()Z" } : Jvm.MethodName) prog_28_method_4_code (1 : Nat) (Option.some Jvm.ClassFile.FieldType.boolean)) ∈ tables_1 := List.mem_of_getElem? (i := 65) rfl
theorem tw64 : (Jvm.Cond.selects "com/example/graphweave/graphweave/jsonld/ActiveContext" ({ cls := "com/example/graphweave/graphweave/jsonld/ActiveContext", name := "isJsonLd10", desc := "()Z" } : Jvm.MethodName) ({ cls := "com/example/graphweave/graphweave/jsonld/ActiveContext", name := "isJsonLd10", desc := "()Z" } : Jvm.MethodName)) ∈ tables_1 := List.mem_of_getElem? (i := 64) rfl
theorem tw62 : (Jvm.Cond.declares ({ cls := "com/example/graphweave/graphweave/jsonld/ActiveContext", name := "isJsonLd10", desc := "()Z" } : Jvm.MethodName)) ∈ tables_1 := List.mem_of_getElem? (i := 62) rfl
theorem tw63 : (Jvm.Cond.instanceMethod ({ cls := "com/example/graphweave/graphweave/jsonld/ActiveContext", name := "isJsonLd10", desc := "()Z" } : Jvm.MethodName)) ∈ tables_1 := List.mem_of_getElem? (i := 63) rfl
theorem tw67 : (Jvm.Cond.fieldLink "com/example/graphweave/graphweave/jsonld/ActiveContextInitialPinLaw" (52 : Nat) "com/example/graphweave/graphweave/jsonld/ActiveContext" "vocab" "Ljava/lang/String;") ∈ tables_1 := List.mem_of_getElem? (i := 67) rfl
theorem tw69 : (Jvm.Cond.fieldLink "com/example/graphweave/graphweave/jsonld/ActiveContextInitialPinLaw" (55 : Nat) "com/example/graphweave/graphweave/jsonld/ActiveContext" "defaultLanguage" "Ljava/lang/String;") ∈ tables_1 := List.mem_of_getElem? (i := 69) rfl
theorem tw71 : (Jvm.Cond.fieldLink "com/example/graphweave/graphweave/jsonld/ActiveContextInitialPinLaw" (58 : Nat) "com/example/graphweave/graphweave/jsonld/ActiveContext" "defaultDirection" "Ljava/lang/String;") ∈ tables_1 := List.mem_of_getElem? (i := 71) rfl
theorem tw73 : (Jvm.Cond.fieldLink "com/example/graphweave/graphweave/jsonld/ActiveContextInitialPinLaw" (61 : Nat) "com/example/graphweave/graphweave/jsonld/ActiveContext" "previousContext" "Lcom/example/graphweave/graphweave/jsonld/ActiveContext;") ∈ tables_1 := List.mem_of_getElem? (i := 73) rfl
theorem tw75 : (Jvm.Cond.methodLink "com/example/graphweave/graphweave/jsonld/ActiveContextInitialPinLaw" (65 : Nat) ({ cls := "com/example/graphweave/graphweave/jsonld/ActiveContext", name := "processed", desc := "()Lcom/example/graphweave/graphweave/jsonld/ActiveContext;" } : Jvm.MethodName)) ∈ tables_1 := List.mem_of_getElem? (i := 75) rfl
theorem tw79 : (Jvm.Cond.code ({ cls := "com/example/graphweave/graphweave/jsonld/ActiveContext", name := "processed", desc := "()Lcom/example/graphweave/graphweave/jsonld/ActiveContext;" } : Jvm.MethodName) prog_28_method_7_code (1 : Nat) (Option.some (Jvm.ClassFile.FieldType.object "com/example/graphweave/graphweave/jsonld/ActiveContext"))) ∈ tables_1 := List.mem_of_getElem? (i := 79) rfl
theorem pd19 : parseMethodDescriptor "()Lcom/example/graphweave/graphweave/jsonld/ActiveContext;" = some ⟨[], some (.object "com/example/graphweave/graphweave/jsonld/ActiveContext")⟩ := by decide +kernel
theorem tw78 : (Jvm.Cond.selects "com/example/graphweave/graphweave/jsonld/ActiveContext" ({ cls := "com/example/graphweave/graphweave/jsonld/ActiveContext", name := "processed", desc := "()Lcom/example/graphweave/graphweave/jsonld/ActiveContext;" } : Jvm.MethodName) ({ cls := "com/example/graphweave/graphweave/jsonld/ActiveContext", name := "processed", desc := "()Lcom/example/graphweave/graphweave/jsonld/ActiveContext;" } : Jvm.MethodName)) ∈ tables_1 := List.mem_of_getElem? (i := 78) rfl
theorem tw76 : (Jvm.Cond.declares ({ cls := "com/example/graphweave/graphweave/jsonld/ActiveContext", name := "processed", desc := "()Lcom/example/graphweave/graphweave/jsonld/ActiveContext;" } : Jvm.MethodName)) ∈ tables_1 := List.mem_of_getElem? (i := 76) rfl
theorem tw77 : (Jvm.Cond.instanceMethod ({ cls := "com/example/graphweave/graphweave/jsonld/ActiveContext", name := "processed", desc := "()Lcom/example/graphweave/graphweave/jsonld/ActiveContext;" } : Jvm.MethodName)) ∈ tables_1 := List.mem_of_getElem? (i := 77) rfl
theorem tw80 : (Jvm.Cond.methodLink "com/example/graphweave/graphweave/jsonld/ActiveContextInitialPinLaw" (69 : Nat) ({ cls := "com/example/graphweave/graphweave/jsonld/ActiveContext", name := "term", desc := "(Ljava/lang/String;)Lcom/example/graphweave/graphweave/jsonld/TermDefinition;" } : Jvm.MethodName)) ∈ tables_1 := List.mem_of_getElem? (i := 80) rfl
theorem tw84 : (Jvm.Cond.code ({ cls := "com/example/graphweave/graphweave/jsonld/ActiveContext", name := "term", desc := "(Ljava/lang/String;)Lcom/example/graphweave/graphweave/jsonld/TermDefinition;" } : Jvm.MethodName) prog_28_method_13_code (2 : Nat) (Option.some (Jvm.ClassFile.FieldType.object "com/example/graphweave/graphweave/jsonld/TermDefinition"))) ∈ tables_1 := List.mem_of_getElem? (i := 84) rfl
theorem tw83 : (Jvm.Cond.selects "com/example/graphweave/graphweave/jsonld/ActiveContext" ({ cls := "com/example/graphweave/graphweave/jsonld/ActiveContext", name := "term", desc := "(Ljava/lang/String;)Lcom/example/graphweave/graphweave/jsonld/TermDefinition;" } : Jvm.MethodName) ({ cls := "com/example/graphweave/graphweave/jsonld/ActiveContext", name := "term", desc := "(Ljava/lang/String;)Lcom/example/graphweave/graphweave/jsonld/TermDefinition;" } : Jvm.MethodName)) ∈ tables_1 := List.mem_of_getElem? (i := 83) rfl
theorem tw81 : (Jvm.Cond.declares ({ cls := "com/example/graphweave/graphweave/jsonld/ActiveContext", name := "term", desc := "(Ljava/lang/String;)Lcom/example/graphweave/graphweave/jsonld/TermDefinition;" } : Jvm.MethodName)) ∈ tables_1 := List.mem_of_getElem? (i := 81) rfl
theorem tw82 : (Jvm.Cond.instanceMethod ({ cls := "com/example/graphweave/graphweave/jsonld/ActiveContext", name := "term", desc := "(Ljava/lang/String;)Lcom/example/graphweave/graphweave/jsonld/TermDefinition;" } : Jvm.MethodName)) ∈ tables_1 := List.mem_of_getElem? (i := 82) rfl
theorem tw116 : (Jvm.Cond.fieldLink "com/example/graphweave/graphweave/jsonld/ActiveContextInitialPinLaw" (13 : Nat) "com/example/graphweave/graphweave/jsonld/ProcessingMode" "JSON_LD_1_1" "Lcom/example/graphweave/graphweave/jsonld/ProcessingMode;") ∈ tables_1 := List.mem_of_getElem? (i := 116) rfl
theorem ef0 (m : MethodId) (x0 : Int32) (x1 : Int32) (x2 : Int32) (x3 : Int32) (x4 : Int32) : entryFrame m #[(.int x0), (.int x1), (.int x2), (.int x3), (.int x4)] maxLocals = mkF m 0 #[.val (.int x0), .val (.int x1), .val (.int x2), .val (.int x3), .val (.int x4), .unset, .unset, .unset, .unset, .unset, .unset, .unset] [] := by first | (simp [entryFrame, mkF, argsToLocals, Value.category, maxLocals]; done) | rfl
def Q0 (Z : State) (p0 : Int32) (p1 : Int32) (p2 : Int32) (p3 : Int32) (p4 : Int32) (w0 : Addr) (w1 : Addr) (wt : Addr) (wr : Addr) (wcs : Int32) (h0 : Heap) (n0 : Nat) (v : Option Value) (h : Heap) (L : List Loc) : Prop := v = some (.int 1) ∧ Fr n0 L ∧ Keep h0 h []
theorem rm0 (l : Launch) (Z : State) (a0 : Array Value) (hw : ∀ d ∈ tables_1, d.before a0 Z = true) (ws : List Jvm.Cond) (p0 : Int32) (p1 : Int32) (p2 : Int32) (p3 : Int32) (p4 : Int32) (w0 : Addr) (w1 : Addr) (wt : Addr) (wr : Addr) (wcs : Int32) (h0 : Heap) (n0 : Nat) (Z0 : n0 ≤ h0.size) (O0 : Old Z n0 h0) (S_10 : Sta Z Z.heap "com/example/graphweave/graphweave/jsonld/ProcessingMode" "JSON_LD_1_0" "Lcom/example/graphweave/graphweave/jsonld/ProcessingMode;" (.ref w0)) (S_11 : Sta Z Z.heap "com/example/graphweave/graphweave/jsonld/ProcessingMode" "JSON_LD_1_1" "Lcom/example/graphweave/graphweave/jsonld/ProcessingMode;" (.ref w1)) (hpm : w1 ≠ w0) (E_w0 : Exa Z Z.heap w0 "com/example/graphweave/graphweave/jsonld/ProcessingMode") (E_w1 : Exa Z Z.heap w1 "com/example/graphweave/graphweave/jsonld/ProcessingMode") (S_EM : Sta Z Z.heap "com/example/graphweave/graphweave/jsonld/TermMap" "EMPTY" "Lcom/example/graphweave/graphweave/jsonld/TermMap;" (.ref wt)) (E_wt : Exa Z Z.heap wt "com/example/graphweave/graphweave/jsonld/TermMap") (F_wt : Fld Z Z.heap wt "com/example/graphweave/graphweave/jsonld/TermMap" "root" "Lcom/example/graphweave/graphweave/jsonld/TermMap$Branch;" (.ref wr)) (E_wr : Exa Z Z.heap wr "com/example/graphweave/graphweave/jsonld/TermMap$Branch") (F_wr : Fld Z Z.heap wr "com/example/graphweave/graphweave/jsonld/TermMap$Branch" "bitmap" "I" (.int 0)) (S_CS : Sta Z Z.heap "java/lang/String" "COMPACT_STRINGS" "Z" (.int wcs)) (hcs : ¬ (wcs = (0 : Int32))) :
    MetP EL0 [] l Z ws x code maxLocals ret room_1 #[(.int p0), (.int p1), (.int p2), (.int p3), (.int p4)] h0 (Q0 Z p0 p1 p2 p3 p4 w0 w1 wt wr wcs h0 n0) := by
  refine MetP.enter (L0 := #[.val (.int p0), .val (.int p1), .val (.int p2), .val (.int p3), .val (.int p4), .unset, .unset, .unset, .unset, .unset, .unset, .unset]) (plainFor_of_name pn185) (fun m => ef0 m p0 p1 p2 p3 p4) ?_
  intro p e s m below meth c s₁ hx hby hml hown hnm hret hlk hZ X0 e0 hH hsx
  have N0 := Fr.nil n0
  have K0 : Keep h0 h0 [] := Keep.refl h0 _
  have hSi : s.Since s.vm 0 := (State.WarmedH.refl s).since 0
  have wS : ∀ a ∈ Bundle.stringAtoms, a.before a0 Z = true := own_wS hw
  have ch0 := CHr.refl hH
  have hEL : EW Z a0 EL0 := own_EL hw
  refine GoW.st (t' := s₁.setTop (mkF m 3 #[.val (.int p0), .val (.int p1), .val (.int p2), .val (.int p3), .val (.int p4), .unset, .unset, .unset, .unset, .unset, .unset, .unset] [(.int (p3 &&& (1 : Int32)))])) (fun target kt => ?_) ?_
  · refine XS.iloadN X0.here hx rfl (hb hby at_0) rfl ?_
    refine XS.iconst X0.here hx rfl (hb hby at_1) ?_
    refine XS.iand X0.here hx rfl (hb hby at_2) rfl ?_
    exact kt
  rcases Classical.em ((p3 &&& (1 : Int32)) = (0 : Int32)) with hc10 | hc10
  · refine GoW.st (t' := s₁.setTop (mkF m 16 #[.val (.int p0), .val (.int p1), .val (.int p2), .val (.int p3), .val (.int p4), .val (.int 0), .unset, .unset, .unset, .unset, .unset, .unset] [(.int (p3 &&& (2 : Int32)))])) (fun target kt => ?_) ?_
    · refine XS.ifYes X0.here hx rfl (pc0 := 3) (pc' := 10) rfl (hb hby at_3) rfl ((if0 _ _).trans (teq hc10).1) (by decide) (by decide) ?_
      refine XS.iconst X0.here hx rfl (hb hby at_10) ?_
      refine XS.istore X0.here hx rfl (hb hby at_11) rfl (l' := #[.val (.int p0), .val (.int p1), .val (.int p2), .val (.int p3), .val (.int p4), .val (.int 0), .unset, .unset, .unset, .unset, .unset, .unset]) rfl ?_
      refine XS.iloadN X0.here hx rfl (hb hby at_13) rfl ?_
      refine XS.iconst X0.here hx rfl (hb hby at_14) ?_
      refine XS.iand X0.here hx rfl (hb hby at_15) rfl ?_
      exact kt
    rcases Classical.em ((p3 &&& (2 : Int32)) = (0 : Int32)) with hc11 | hc11
    · refine GoW.st (t' := s₁.setTop (mkF m 47 #[.val (.int p0), .val (.int p1), .val (.int p2), .val (.int p3), .val (.int p4), .val (.int 0), .val (.int 0), .val (.int (((p3.toUInt32 >>> ((2 : Int32) &&& 31).toUInt32).toInt32) &&& (3 : Int32))), .unset, .unset, .unset, .unset] [(.int p2), (.int p1), (.int p0), (.int (((p3.toUInt32 >>> ((2 : Int32) &&& 31).toUInt32).toInt32) &&& (3 : Int32)))])) (fun target kt => ?_) ?_
      · refine XS.ifYes X0.here hx rfl (pc0 := 16) (pc' := 23) rfl (hb hby at_16) rfl ((if0 _ _).trans (teq hc11).1) (by decide) (by decide) ?_
        refine XS.iconst X0.here hx rfl (hb hby at_23) ?_
        refine XS.istore X0.here hx rfl (hb hby at_24) rfl (l' := #[.val (.int p0), .val (.int p1), .val (.int p2), .val (.int p3), .val (.int p4), .val (.int 0), .val (.int 0), .unset, .unset, .unset, .unset, .unset]) rfl ?_
        refine XS.iloadN X0.here hx rfl (hb hby at_26) rfl ?_
        refine XS.iconst X0.here hx rfl (hb hby at_27) ?_
        refine XS.iushr X0.here hx rfl (hb hby at_28) rfl ?_
        refine XS.iconst X0.here hx rfl (hb hby at_29) ?_
        refine XS.iand X0.here hx rfl (hb hby at_30) rfl ?_
        refine XS.istore X0.here hx rfl (hb hby at_31) rfl (l' := #[.val (.int p0), .val (.int p1), .val (.int p2), .val (.int p3), .val (.int p4), .val (.int 0), .val (.int 0), .val (.int (((p3.toUInt32 >>> ((2 : Int32) &&& 31).toUInt32).toInt32) &&& (3 : Int32))), .unset, .unset, .unset, .unset]) rfl ?_
        refine XS.iload X0.here hx rfl (hb hby at_33) rfl ?_
        refine XS.ifYes X0.here hx rfl (pc0 := 35) (pc' := 42) rfl (hb hby at_35) rfl ((if0 _ _).trans (teq (by decide : (0 : Int32) = (0 : Int32))).1) (by decide) (by decide) ?_
        refine XS.iload X0.here hx rfl (hb hby at_42) rfl ?_
        refine XS.iloadN X0.here hx rfl (hb hby at_44) rfl ?_
        refine XS.iloadN X0.here hx rfl (hb hby at_45) rfl ?_
        refine XS.iloadN X0.here hx rfl (hb hby at_46) rfl ?_
        exact kt
      obtain ⟨_, _, ⟨T12, L12, k12, n12⟩, -, X12, hSn12, hgr12, ⟨Lc12, hQ12, l12, y12, z12⟩, st12⟩ := callSS X0 hx (y := (⟨"com/example/graphweave/graphweave/jsonld/ActiveContextInitialPinLaw", "str", "(IIII)Ljava/lang/String;"⟩ : MethodName)) hown (mvT hZ (hw _ tw118)) (mvT hZ (hw _ tw119)) (mvT hZ (hw _ tw57)) (mvT hZ (hw _ tw120)) (by decide) (own_backOfSP (s := s) (xs := []) (W := 0) (rm17 l Z a0 hw [] (((p3.toUInt32 >>> ((2 : Int32) &&& 31).toUInt32).toInt32) &&& (3 : Int32)) p0 p1 p2 wcs h0 n0 (Nat.le_trans Z0 K0.1) O0 S_CS hcs ) hZ (hw _ tw120) (hw _ tw57) (by decide) (by decide) hEL ch0.1 all0) (g := (mkF m 47 #[.val (.int p0), .val (.int p1), .val (.int p2), .val (.int p3), .val (.int p4), .val (.int 0), .val (.int 0), .val (.int (((p3.toUInt32 >>> ((2 : Int32) &&& 31).toUInt32).toInt32) &&& (3 : Int32))), .unset, .unset, .unset, .unset] [(.int p2), (.int p1), (.int p0), (.int (((p3.toUInt32 >>> ((2 : Int32) &&& 31).toUInt32).toInt32) &&& (3 : Int32)))])) rfl (by rw [hml]; rfl) (argsL := [(.int (((p3.toUInt32 >>> ((2 : Int32) &&& 31).toUInt32).toInt32) &&& (3 : Int32))), (.int p0), (.int p1), (.int p2)]) (rest := []) (lenOf pd16 rfl) rfl (by show 2 * 0 + _ ≤ _; exact Nat.le_of_eq rfl) (hb hby at_47) (fun _ _ => ⟨rfl, e0, (by decide : 0 + 6 ≤ _), (by decide : 0 + 12 ≤ _)⟩)
      dsimp only [Pt.U, Pt.locs, Pt.cells, Pt.slots] at X12 l12 y12 z12 st12 hQ12 hSn12 hgr12
      subst l12 y12 z12
      have hSi := foldS hSi (by rw [e0]; exact (Nat.zero_le _)) hSn12 hgr12
      have hown : T12.vm.findClass "com/example/graphweave/graphweave/jsonld/ActiveContextInitialPinLaw" = some m.cls := by rw [hSn12.1.alike.findClass]; exact hown
      have hZ : Z.Warmed39 T12.vm := State.Warmed39.trans (t := (s.setVm s.vm)) hZ hSn12.1
      have X12 : Stand p l e room_1 (s.setVm T12.vm) m #[(.int p0), (.int p1), (.int p2), (.int p3), (.int p4)] below meth c T12 _ _ _ := X12
      obtain ⟨b13, rfl, Nq12, Kq12, q14, q15⟩ := hQ12
      have N12 := Fr.app N0 Nq12
      have sz16 : h0.size ≤ b13 := Nat.le_trans K0.1 q14
      have g17 : n0 ≤ b13 := Nat.le_trans Z0 sz16
      have K18 := K0.trans Kq12 all0
      have O19 := O0.keep Kq12 all0
      refine GoW.by st12 ?_
      show GoW _ _ _ _ _ _ _ (T12.setTop (mkF m 50 _ [(.ref b13)]))
      refine GoW.st (t' := T12.setTop (mkF m 63 #[.val (.int p0), .val (.int p1), .val (.int p2), .val (.int p3), .val (.int p4), .val (.int 0), .val (.int 0), .val (.int (((p3.toUInt32 >>> ((2 : Int32) &&& 31).toUInt32).toInt32) &&& (3 : Int32))), .val (.ref b13), .unset, .unset, .unset] [])) (fun target kt => ?_) ?_
      · refine XS.astore X12.here hx rfl (hb hby at_50) rfl rfl (l' := #[.val (.int p0), .val (.int p1), .val (.int p2), .val (.int p3), .val (.int p4), .val (.int 0), .val (.int 0), .val (.int (((p3.toUInt32 >>> ((2 : Int32) &&& 31).toUInt32).toInt32) &&& (3 : Int32))), .val (.ref b13), .unset, .unset, .unset]) rfl ?_
        refine XS.iload X12.here hx rfl (hb hby at_52) rfl ?_
        refine XS.ifYes X12.here hx rfl (pc0 := 54) (pc' := 63) rfl (hb hby at_54) rfl ((if0 _ _).trans (teq (by decide : (0 : Int32) = (0 : Int32))).1) (by decide) (by decide) ?_
        exact kt
      obtain ⟨T20, X20, e20, st20⟩ := getS2 X12 hx hZ hown (host := "") (Or.inl (hw _ tw0)) Via.refl rfl (S_10.ext O19.2) (g := (mkF m 63 #[.val (.int p0), .val (.int p1), .val (.int p2), .val (.int p3), .val (.int p4), .val (.int 0), .val (.int 0), .val (.int (((p3.toUInt32 >>> ((2 : Int32) &&& 31).toUInt32).toInt32) &&& (3 : Int32))), .val (.ref b13), .unset, .unset, .unset] [])) rfl (hb hby at_63)
      refine GoW.st st20 ?_
      show GoW _ _ _ _ _ _ _ (T20.setTop (mkF m 66 _ [(.ref w0)]))
      refine GoW.st (t' := T20.setTop (mkF m 75 #[.val (.int p0), .val (.int p1), .val (.int p2), .val (.int p3), .val (.int p4), .val (.int 0), .val (.int 0), .val (.int (((p3.toUInt32 >>> ((2 : Int32) &&& 31).toUInt32).toInt32) &&& (3 : Int32))), .val (.ref b13), .val (.ref w0), .unset, .unset] [(.int ((p4 &&& (255 : Int32)).toUInt32.toUInt16.toUInt32.toInt32))])) (fun target kt => ?_) ?_
      · refine XS.astore X20.here hx rfl (hb hby at_66) rfl rfl (l' := #[.val (.int p0), .val (.int p1), .val (.int p2), .val (.int p3), .val (.int p4), .val (.int 0), .val (.int 0), .val (.int (((p3.toUInt32 >>> ((2 : Int32) &&& 31).toUInt32).toInt32) &&& (3 : Int32))), .val (.ref b13), .val (.ref w0), .unset, .unset]) rfl ?_
        refine XS.iload X20.here hx rfl (hb hby at_68) rfl ?_
        refine XS.sipush X20.here hx rfl (hb hby at_70) ?_
        refine XS.iand X20.here hx rfl (hb hby at_73) rfl ?_
        refine XS.i2c X20.here hx rfl (hb hby at_74) rfl ?_
        exact kt
      obtain ⟨_, _, ⟨T21, L21, k21, n21⟩, -, X21, ⟨Lc21, hQ21, l21, y21, z21⟩, st21⟩ := Jvm.LawKit.callS X20 hx (y := (⟨"java/lang/String", "valueOf", "(C)Ljava/lang/String;"⟩ : MethodName)) hown (mvT hZ (hw _ tw3)) (mvT hZ (hw _ tw4)) (mvT hZ (hw _ tw5)) (mvT hZ (hw _ tw6)) (by decide) (backOf (W := 0) (rm1 l Z a0 hw [] ((p4 &&& (255 : Int32)).toUInt32.toUInt16.toUInt32.toInt32) wcs T12.heap n0 (Nat.le_trans Z0 K18.1) O19 S_CS hcs (own_c255 p4)) hZ (hw _ tw6) (hw _ tw5) (by decide) (by decide)) (g := (mkF m 75 #[.val (.int p0), .val (.int p1), .val (.int p2), .val (.int p3), .val (.int p4), .val (.int 0), .val (.int 0), .val (.int (((p3.toUInt32 >>> ((2 : Int32) &&& 31).toUInt32).toInt32) &&& (3 : Int32))), .val (.ref b13), .val (.ref w0), .unset, .unset] [(.int ((p4 &&& (255 : Int32)).toUInt32.toUInt16.toUInt32.toInt32))])) rfl (by rw [hml]; rfl) (argsL := [(.int ((p4 &&& (255 : Int32)).toUInt32.toUInt16.toUInt32.toInt32))]) (rest := []) (lenOf pd8 rfl) rfl (by show 2 * 0 + _ ≤ _; exact Nat.le_of_eq rfl) (hb hby at_75) (fun _ _ => ⟨rfl, e20, (by decide : 6 + 2 ≤ _), (by decide : 12 + 5 ≤ _)⟩)
      dsimp only [Pt.U, Pt.locs, Pt.cells, Pt.slots] at X21 l21 y21 z21 st21 hQ21
      subst l21 y21 z21
      obtain ⟨b22, b23, k24, i25, rfl, Nq21, Kq21, q26, q27, q28, q29, q30, q31, q32, q33⟩ := hQ21
      have N21 := Fr.app N12 Nq21
      have sz34 : h0.size ≤ b22 := Nat.le_trans K18.1 q26
      have g35 : n0 ≤ b22 := Nat.le_trans Z0 sz34
      have sz36 : h0.size ≤ b23 := Nat.le_trans K18.1 q27
      have g37 : n0 ≤ b23 := Nat.le_trans Z0 sz36
      have K38 := K18.trans Kq21 all0
      have O39 := O19.keep Kq21 all0
      refine GoW.st st21 ?_
      show GoW _ _ _ _ _ _ _ (T21.setTop (mkF m 78 _ [(.ref b22)]))
      refine GoW.st (t' := T21.setTop (mkF m 84 #[.val (.int p0), .val (.int p1), .val (.int p2), .val (.int p3), .val (.int p4), .val (.int 0), .val (.int 0), .val (.int (((p3.toUInt32 >>> ((2 : Int32) &&& 31).toUInt32).toInt32) &&& (3 : Int32))), .val (.ref b13), .val (.ref w0), .val (.ref b22), .unset] [(.ref w0), (.ref b13)])) (fun target kt => ?_) ?_
      · refine XS.astore X21.here hx rfl (hb hby at_78) rfl rfl (l' := #[.val (.int p0), .val (.int p1), .val (.int p2), .val (.int p3), .val (.int p4), .val (.int 0), .val (.int 0), .val (.int (((p3.toUInt32 >>> ((2 : Int32) &&& 31).toUInt32).toInt32) &&& (3 : Int32))), .val (.ref b13), .val (.ref w0), .val (.ref b22), .unset]) rfl ?_
        refine XS.aload X21.here hx rfl (hb hby at_80) rfl rfl ?_
        refine XS.aload X21.here hx rfl (hb hby at_82) rfl rfl ?_
        exact kt
      obtain ⟨_, _, ⟨T40, L40, k40, n40⟩, -, X40, ⟨Lc40, hQ40, l40, y40, z40⟩, st40⟩ := Jvm.LawKit.callS X21 hx (y := (⟨"com/example/graphweave/graphweave/jsonld/ActiveContext", "initial", "(Ljava/lang/String;Lcom/example/graphweave/graphweave/jsonld/ProcessingMode;)Lcom/example/graphweave/graphweave/jsonld/ActiveContext;"⟩ : MethodName)) hown (mvT hZ (hw _ tw29)) (mvT hZ (hw _ tw30)) (mvT hZ (hw _ tw31)) (mvT hZ (hw _ tw32)) (by decide) (backOf (W := 0) (rm6_r l Z a0 hw [] b13 w0 wt wr T21.heap n0 (Nat.le_trans Z0 K38.1) O39 S_EM ) hZ (hw _ tw32) (hw _ tw31) (by decide) (by decide)) (g := (mkF m 84 #[.val (.int p0), .val (.int p1), .val (.int p2), .val (.int p3), .val (.int p4), .val (.int 0), .val (.int 0), .val (.int (((p3.toUInt32 >>> ((2 : Int32) &&& 31).toUInt32).toInt32) &&& (3 : Int32))), .val (.ref b13), .val (.ref w0), .val (.ref b22), .unset] [(.ref w0), (.ref b13)])) rfl (by rw [hml]; rfl) (argsL := [(.ref b13), (.ref w0)]) (rest := []) (lenOf pd17 rfl) rfl (by show 2 * 0 + _ ≤ _; exact Nat.le_of_eq rfl) (hb hby at_84) (fun _ _ => ⟨rfl, rfl, (by decide : 8 + 1 ≤ _), (by decide : 17 + 10 ≤ _)⟩)
      dsimp only [Pt.U, Pt.locs, Pt.cells, Pt.slots] at X40 l40 y40 z40 st40 hQ40
      subst l40 y40 z40
      obtain ⟨b41, rfl, Nq40, Kq40, q42, q43, q44, q45, q46, q47, q48, q49, q50, q51, q52, q53⟩ := hQ40
      have N40 := Fr.app N21 Nq40
      have sz54 : h0.size ≤ b41 := Nat.le_trans K38.1 q42
      have g55 : n0 ≤ b41 := Nat.le_trans Z0 sz54
      have K56 := K38.trans Kq40 all0
      have O57 := O39.keep Kq40 all0
      refine GoW.st st40 ?_
      show GoW _ _ _ _ _ _ _ (T40.setTop (mkF m 87 _ [(.ref b41)]))
      refine GoW.st (t' := T40.setTop (mkF m 98 #[.val (.int p0), .val (.int p1), .val (.int p2), .val (.int p3), .val (.int p4), .val (.int 0), .val (.int 0), .val (.int (((p3.toUInt32 >>> ((2 : Int32) &&& 31).toUInt32).toInt32) &&& (3 : Int32))), .val (.ref b13), .val (.ref w0), .val (.ref b22), .val (.ref b41)] [(.ref b41)])) (fun target kt => ?_) ?_
      · refine XS.astore X40.here hx rfl (hb hby at_87) rfl rfl (l' := #[.val (.int p0), .val (.int p1), .val (.int p2), .val (.int p3), .val (.int p4), .val (.int 0), .val (.int 0), .val (.int (((p3.toUInt32 >>> ((2 : Int32) &&& 31).toUInt32).toInt32) &&& (3 : Int32))), .val (.ref b13), .val (.ref w0), .val (.ref b22), .val (.ref b41)]) rfl ?_
        refine XS.aload X40.here hx rfl (hb hby at_89) rfl rfl ?_
        refine XS.ifnonnullYes X40.here hx rfl (pc0 := 91) (pc' := 96) rfl (hb hby at_91) rfl (by decide) (by decide) ?_
        refine XS.aload X40.here hx rfl (hb hby at_96) rfl rfl ?_
        exact kt
      obtain ⟨T58, X58, e58, st58⟩ := getF X40 hx hZ hown (host := "") (Or.inl (hw _ tw54)) Via.refl rfl q44 (g := (mkF m 98 #[.val (.int p0), .val (.int p1), .val (.int p2), .val (.int p3), .val (.int p4), .val (.int 0), .val (.int 0), .val (.int (((p3.toUInt32 >>> ((2 : Int32) &&& 31).toUInt32).toInt32) &&& (3 : Int32))), .val (.ref b13), .val (.ref w0), .val (.ref b22), .val (.ref b41)] [(.ref b41)])) rfl rfl (hb hby at_98)
      refine GoW.st st58 ?_
      show GoW _ _ _ _ _ _ _ (T58.setTop (mkF m 101 _ [(.ref b13)]))
      refine GoW.st (t' := T58.setTop (mkF m 103 #[.val (.int p0), .val (.int p1), .val (.int p2), .val (.int p3), .val (.int p4), .val (.int 0), .val (.int 0), .val (.int (((p3.toUInt32 >>> ((2 : Int32) &&& 31).toUInt32).toInt32) &&& (3 : Int32))), .val (.ref b13), .val (.ref w0), .val (.ref b22), .val (.ref b41)] [(.ref b13), (.ref b13)])) (fun target kt => ?_) ?_
      · refine XS.aload X58.here hx rfl (hb hby at_101) rfl rfl ?_
        exact kt
      have c59 := (q15.keep Kq21).keep Kq40
      obtain ⟨_, _, ⟨T60, L60, k60, n60⟩, -, X60, ⟨Lc60, hQ60, l60, y60, z60⟩, st60⟩ := Jvm.LawKit.callS X58 hx (y := (⟨"com/example/graphweave/graphweave/jsonld/ActiveContextInitialPinLaw", "same", "(Ljava/lang/String;Ljava/lang/String;)Z"⟩ : MethodName)) hown (mvT hZ (hw _ tw55)) (mvT hZ (hw _ tw56)) (mvT hZ (hw _ tw57)) (mvT hZ (hw _ tw58)) (by decide) (backOf (W := 0) (rm8_r l Z a0 hw [] b13 T40.heap n0 (Nat.le_trans Z0 K56.1) O57  c59) hZ (hw _ tw58) (hw _ tw57) (by decide) (by decide)) (g := (mkF m 103 #[.val (.int p0), .val (.int p1), .val (.int p2), .val (.int p3), .val (.int p4), .val (.int 0), .val (.int 0), .val (.int (((p3.toUInt32 >>> ((2 : Int32) &&& 31).toUInt32).toInt32) &&& (3 : Int32))), .val (.ref b13), .val (.ref w0), .val (.ref b22), .val (.ref b41)] [(.ref b13), (.ref b13)])) rfl (by rw [hml]; rfl) (argsL := [(.ref b13), (.ref b13)]) (rest := []) (lenOf pd18 rfl) rfl (by show 2 * 0 + _ ≤ _; exact Nat.le_of_eq rfl) (hb hby at_103) (fun _ _ => ⟨rfl, e58, (by decide : 9 + 0 ≤ _), (by decide : 27 + 0 ≤ _)⟩)
      dsimp only [Pt.U, Pt.locs, Pt.cells, Pt.slots] at X60 l60 y60 z60 st60 hQ60
      subst l60 y60 z60
      obtain ⟨rfl, Nq60, eq60⟩ := hQ60
      have N60 := Fr.app N40 Nq60
      refine GoW.st st60 ?_
      show GoW _ _ _ _ _ _ _ (T60.setTop (mkF m 106 _ [(.int 1)]))
      refine GoW.st (t' := T60.setTop (mkF m 111 #[.val (.int p0), .val (.int p1), .val (.int p2), .val (.int p3), .val (.int p4), .val (.int 0), .val (.int 0), .val (.int (((p3.toUInt32 >>> ((2 : Int32) &&& 31).toUInt32).toInt32) &&& (3 : Int32))), .val (.ref b13), .val (.ref w0), .val (.ref b22), .val (.ref b41)] [(.ref b41)])) (fun target kt => ?_) ?_
      · refine XS.ifNo X60.here hx rfl (hb hby at_106) rfl ((if0 _ _).trans (feq (by decide : ¬ ((1 : Int32) = (0 : Int32)))).1) ?_
        refine XS.aload X60.here hx rfl (hb hby at_109) rfl rfl ?_
        exact kt
      obtain ⟨T61, X61, e61, st61⟩ := getF X60 hx hZ hown (host := "") (Or.inl (hw _ tw59)) Via.refl eq60 q46 (g := (mkF m 111 #[.val (.int p0), .val (.int p1), .val (.int p2), .val (.int p3), .val (.int p4), .val (.int 0), .val (.int 0), .val (.int (((p3.toUInt32 >>> ((2 : Int32) &&& 31).toUInt32).toInt32) &&& (3 : Int32))), .val (.ref b13), .val (.ref w0), .val (.ref b22), .val (.ref b41)] [(.ref b41)])) rfl rfl (hb hby at_111)
      refine GoW.st st61 ?_
      show GoW _ _ _ _ _ _ _ (T61.setTop (mkF m 114 _ [(.ref b13)]))
      refine GoW.st (t' := T61.setTop (mkF m 116 #[.val (.int p0), .val (.int p1), .val (.int p2), .val (.int p3), .val (.int p4), .val (.int 0), .val (.int 0), .val (.int (((p3.toUInt32 >>> ((2 : Int32) &&& 31).toUInt32).toInt32) &&& (3 : Int32))), .val (.ref b13), .val (.ref w0), .val (.ref b22), .val (.ref b41)] [(.ref b13), (.ref b13)])) (fun target kt => ?_) ?_
      · refine XS.aload X61.here hx rfl (hb hby at_114) rfl rfl ?_
        exact kt
      obtain ⟨_, _, ⟨T62, L62, k62, n62⟩, -, X62, ⟨Lc62, hQ62, l62, y62, z62⟩, st62⟩ := Jvm.LawKit.callS X61 hx (y := (⟨"com/example/graphweave/graphweave/jsonld/ActiveContextInitialPinLaw", "same", "(Ljava/lang/String;Ljava/lang/String;)Z"⟩ : MethodName)) hown (mvT hZ (hw _ tw55)) (mvT hZ (hw _ tw56)) (mvT hZ (hw _ tw57)) (mvT hZ (hw _ tw58)) (by decide) (backOf (W := 0) (rm8_r l Z a0 hw [] b13 T40.heap n0 (Nat.le_trans Z0 K56.1) O57  c59) hZ (hw _ tw58) (hw _ tw57) (by decide) (by decide)) (g := (mkF m 116 #[.val (.int p0), .val (.int p1), .val (.int p2), .val (.int p3), .val (.int p4), .val (.int 0), .val (.int 0), .val (.int (((p3.toUInt32 >>> ((2 : Int32) &&& 31).toUInt32).toInt32) &&& (3 : Int32))), .val (.ref b13), .val (.ref w0), .val (.ref b22), .val (.ref b41)] [(.ref b13), (.ref b13)])) rfl (by rw [hml]; rfl) (argsL := [(.ref b13), (.ref b13)]) (rest := []) (lenOf pd18 rfl) rfl (by show 2 * 0 + _ ≤ _; exact Nat.le_of_eq rfl) (hb hby at_116) (fun _ _ => ⟨rfl, e61, (by decide : 9 + 0 ≤ _), (by decide : 27 + 0 ≤ _)⟩)
      dsimp only [Pt.U, Pt.locs, Pt.cells, Pt.slots] at X62 l62 y62 z62 st62 hQ62
      subst l62 y62 z62
      obtain ⟨rfl, Nq62, eq62⟩ := hQ62
      have N62 := Fr.app N60 Nq62
      refine GoW.st st62 ?_
      show GoW _ _ _ _ _ _ _ (T62.setTop (mkF m 119 _ [(.int 1)]))
      refine GoW.st (t' := T62.setTop (mkF m 124 #[.val (.int p0), .val (.int p1), .val (.int p2), .val (.int p3), .val (.int p4), .val (.int 0), .val (.int 0), .val (.int (((p3.toUInt32 >>> ((2 : Int32) &&& 31).toUInt32).toInt32) &&& (3 : Int32))), .val (.ref b13), .val (.ref w0), .val (.ref b22), .val (.ref b41)] [(.ref b41)])) (fun target kt => ?_) ?_
      · refine XS.ifNo X62.here hx rfl (hb hby at_119) rfl ((if0 _ _).trans (feq (by decide : ¬ ((1 : Int32) = (0 : Int32)))).1) ?_
        refine XS.aload X62.here hx rfl (hb hby at_122) rfl rfl ?_
        exact kt
      obtain ⟨T63, X63, e63, st63⟩ := getF X62 hx hZ hown (host := "") (Or.inl (hw _ tw60)) Via.refl eq62 q45 (g := (mkF m 124 #[.val (.int p0), .val (.int p1), .val (.int p2), .val (.int p3), .val (.int p4), .val (.int 0), .val (.int 0), .val (.int (((p3.toUInt32 >>> ((2 : Int32) &&& 31).toUInt32).toInt32) &&& (3 : Int32))), .val (.ref b13), .val (.ref w0), .val (.ref b22), .val (.ref b41)] [(.ref b41)])) rfl rfl (hb hby at_124)
      refine GoW.st st63 ?_
      show GoW _ _ _ _ _ _ _ (T63.setTop (mkF m 127 _ [(.ref w0)]))
      refine GoW.st (t' := T63.setTop (mkF m 134 #[.val (.int p0), .val (.int p1), .val (.int p2), .val (.int p3), .val (.int p4), .val (.int 0), .val (.int 0), .val (.int (((p3.toUInt32 >>> ((2 : Int32) &&& 31).toUInt32).toInt32) &&& (3 : Int32))), .val (.ref b13), .val (.ref w0), .val (.ref b22), .val (.ref b41)] [(.ref b41)])) (fun target kt => ?_) ?_
      · refine XS.aload X63.here hx rfl (hb hby at_127) rfl rfl ?_
        refine Jvm.RoadKit.acmp (g := (mkF m 129 #[.val (.int p0), .val (.int p1), .val (.int p2), .val (.int p3), .val (.int p4), .val (.int 0), .val (.int 0), .val (.int (((p3.toUInt32 >>> ((2 : Int32) &&& 31).toUInt32).toInt32) &&& (3 : Int32))), .val (.ref b13), .val (.ref w0), .val (.ref b22), .val (.ref b41)] [(.ref w0), (.ref w0)])) X63 hx rfl rfl rfl (pc0 := 129) (pc' := 132) (same := true) rfl (hb hby at_129) rfl (decide_eq_true rfl) (by decide) (by decide) ?_
        refine XS.aload X63.here hx rfl (hb hby at_132) rfl rfl ?_
        exact kt
      obtain ⟨cq64, kq64, q64a, q64b, q64c⟩ := isOf hZ e63 q43
      obtain ⟨_, _, ⟨T64, L64, k64, n64⟩, -, X64, ⟨Lc64, hQ64, l64, y64, z64⟩, st64⟩ := X63.virtualBack hx (y := (⟨"com/example/graphweave/graphweave/jsonld/ActiveContext", "isJsonLd10", "()Z"⟩ : MethodName)) (z := (⟨"com/example/graphweave/graphweave/jsonld/ActiveContext", "isJsonLd10", "()Z"⟩ : MethodName)) hown (mvT hZ (hw _ tw61)) (mvT hZ (hw _ tw62)) (notFace_of_selects (args := #[]) (mvT hZ (hw _ tw64))) (mvT hZ (hw _ tw64)) (mvT hZ (hw _ tw63)) (by decide) (backOf (W := 0) (rm9_0 l Z a0 hw [] b41 w0 w1 T40.heap n0 (Nat.le_trans Z0 K56.1) O57 S_10 q45) hZ (hw _ tw65) (hw _ tw31) (by decide) (by decide)) q64a q64c (g := (mkF m 134 #[.val (.int p0), .val (.int p1), .val (.int p2), .val (.int p3), .val (.int p4), .val (.int 0), .val (.int 0), .val (.int (((p3.toUInt32 >>> ((2 : Int32) &&& 31).toUInt32).toInt32) &&& (3 : Int32))), .val (.ref b13), .val (.ref w0), .val (.ref b22), .val (.ref b41)] [(.ref b41)])) rfl (by rw [hml]; rfl) (Steps.refl _) (argsL := []) (rest := []) (lenOf pd11 rfl) rfl (by show 2 * 0 + _ ≤ _; exact Nat.le_of_eq rfl) (hb hby at_134) (fun _ _ => ⟨rfl, e63, (by decide : 9 + 0 ≤ _), (by decide : 27 + 0 ≤ _)⟩)
      dsimp only [Pt.U, Pt.locs, Pt.cells, Pt.slots] at X64 l64 y64 z64 st64 hQ64
      subst l64 y64 z64
      obtain ⟨rfl, Nq64, eq64⟩ := hQ64
      have N64 := Fr.app N62 Nq64
      refine GoW.by st64 ?_
      show GoW _ _ _ _ _ _ _ (T64.setTop (mkF m 137 _ [(.int 1)]))
      refine GoW.st (t' := T64.setTop (mkF m 152 #[.val (.int p0), .val (.int p1), .val (.int p2), .val (.int p3), .val (.int p4), .val (.int 0), .val (.int 0), .val (.int (((p3.toUInt32 >>> ((2 : Int32) &&& 31).toUInt32).toInt32) &&& (3 : Int32))), .val (.ref b13), .val (.ref w0), .val (.ref b22), .val (.ref b41)] [(.ref b41)])) (fun target kt => ?_) ?_
      · refine XS.iload X64.here hx rfl (hb hby at_137) rfl ?_
        refine XS.ifNo X64.here hx rfl (hb hby at_139) rfl ((if0 _ _).trans (teq (by decide : (0 : Int32) = (0 : Int32))).2) ?_
        refine XS.iconst X64.here hx rfl (hb hby at_142) ?_
        refine XS.goto X64.here hx rfl (pc0 := 143) (pc' := 147) rfl (hb hby at_143) (by decide) (by decide) ?_
        refine XS.icmpNo X64.here hx rfl (hb hby at_147) rfl (teq (by decide : (1 : Int32) = (1 : Int32))).2 ?_
        refine XS.aload X64.here hx rfl (hb hby at_150) rfl rfl ?_
        exact kt
      obtain ⟨T65, X65, e65, st65⟩ := getF X64 hx hZ hown (host := "") (Or.inl (hw _ tw67)) Via.refl eq64 q50 (g := (mkF m 152 #[.val (.int p0), .val (.int p1), .val (.int p2), .val (.int p3), .val (.int p4), .val (.int 0), .val (.int 0), .val (.int (((p3.toUInt32 >>> ((2 : Int32) &&& 31).toUInt32).toInt32) &&& (3 : Int32))), .val (.ref b13), .val (.ref w0), .val (.ref b22), .val (.ref b41)] [(.ref b41)])) rfl rfl (hb hby at_152)
      refine GoW.st st65 ?_
      show GoW _ _ _ _ _ _ _ (T65.setTop (mkF m 155 _ [.null]))
      refine GoW.st (t' := T65.setTop (mkF m 160 #[.val (.int p0), .val (.int p1), .val (.int p2), .val (.int p3), .val (.int p4), .val (.int 0), .val (.int 0), .val (.int (((p3.toUInt32 >>> ((2 : Int32) &&& 31).toUInt32).toInt32) &&& (3 : Int32))), .val (.ref b13), .val (.ref w0), .val (.ref b22), .val (.ref b41)] [(.ref b41)])) (fun target kt => ?_) ?_
      · refine XS.ifnonnullNo X65.here hx rfl (hb hby at_155) rfl ?_
        refine XS.aload X65.here hx rfl (hb hby at_158) rfl rfl ?_
        exact kt
      obtain ⟨T66, X66, e66, st66⟩ := getF X65 hx hZ hown (host := "") (Or.inl (hw _ tw69)) Via.refl e65 q51 (g := (mkF m 160 #[.val (.int p0), .val (.int p1), .val (.int p2), .val (.int p3), .val (.int p4), .val (.int 0), .val (.int 0), .val (.int (((p3.toUInt32 >>> ((2 : Int32) &&& 31).toUInt32).toInt32) &&& (3 : Int32))), .val (.ref b13), .val (.ref w0), .val (.ref b22), .val (.ref b41)] [(.ref b41)])) rfl rfl (hb hby at_160)
      refine GoW.st st66 ?_
      show GoW _ _ _ _ _ _ _ (T66.setTop (mkF m 163 _ [.null]))
      refine GoW.st (t' := T66.setTop (mkF m 168 #[.val (.int p0), .val (.int p1), .val (.int p2), .val (.int p3), .val (.int p4), .val (.int 0), .val (.int 0), .val (.int (((p3.toUInt32 >>> ((2 : Int32) &&& 31).toUInt32).toInt32) &&& (3 : Int32))), .val (.ref b13), .val (.ref w0), .val (.ref b22), .val (.ref b41)] [(.ref b41)])) (fun target kt => ?_) ?_
      · refine XS.ifnonnullNo X66.here hx rfl (hb hby at_163) rfl ?_
        refine XS.aload X66.here hx rfl (hb hby at_166) rfl rfl ?_
        exact kt
      obtain ⟨T67, X67, e67, st67⟩ := getF X66 hx hZ hown (host := "") (Or.inl (hw _ tw71)) Via.refl e66 q52 (g := (mkF m 168 #[.val (.int p0), .val (.int p1), .val (.int p2), .val (.int p3), .val (.int p4), .val (.int 0), .val (.int 0), .val (.int (((p3.toUInt32 >>> ((2 : Int32) &&& 31).toUInt32).toInt32) &&& (3 : Int32))), .val (.ref b13), .val (.ref w0), .val (.ref b22), .val (.ref b41)] [(.ref b41)])) rfl rfl (hb hby at_168)
      refine GoW.st st67 ?_
      show GoW _ _ _ _ _ _ _ (T67.setTop (mkF m 171 _ [.null]))
      refine GoW.st (t' := T67.setTop (mkF m 176 #[.val (.int p0), .val (.int p1), .val (.int p2), .val (.int p3), .val (.int p4), .val (.int 0), .val (.int 0), .val (.int (((p3.toUInt32 >>> ((2 : Int32) &&& 31).toUInt32).toInt32) &&& (3 : Int32))), .val (.ref b13), .val (.ref w0), .val (.ref b22), .val (.ref b41)] [(.ref b41)])) (fun target kt => ?_) ?_
      · refine XS.ifnonnullNo X67.here hx rfl (hb hby at_171) rfl ?_
        refine XS.aload X67.here hx rfl (hb hby at_174) rfl rfl ?_
        exact kt
      obtain ⟨T68, X68, e68, st68⟩ := getF X67 hx hZ hown (host := "") (Or.inl (hw _ tw73)) Via.refl e67 q53 (g := (mkF m 176 #[.val (.int p0), .val (.int p1), .val (.int p2), .val (.int p3), .val (.int p4), .val (.int 0), .val (.int 0), .val (.int (((p3.toUInt32 >>> ((2 : Int32) &&& 31).toUInt32).toInt32) &&& (3 : Int32))), .val (.ref b13), .val (.ref w0), .val (.ref b22), .val (.ref b41)] [(.ref b41)])) rfl rfl (hb hby at_176)
      refine GoW.st st68 ?_
      show GoW _ _ _ _ _ _ _ (T68.setTop (mkF m 179 _ [.null]))
      refine GoW.st (t' := T68.setTop (mkF m 184 #[.val (.int p0), .val (.int p1), .val (.int p2), .val (.int p3), .val (.int p4), .val (.int 0), .val (.int 0), .val (.int (((p3.toUInt32 >>> ((2 : Int32) &&& 31).toUInt32).toInt32) &&& (3 : Int32))), .val (.ref b13), .val (.ref w0), .val (.ref b22), .val (.ref b41)] [(.ref b41)])) (fun target kt => ?_) ?_
      · refine XS.ifnonnullNo X68.here hx rfl (hb hby at_179) rfl ?_
        refine XS.aload X68.here hx rfl (hb hby at_182) rfl rfl ?_
        exact kt
      obtain ⟨cq69, kq69, q69a, q69b, q69c⟩ := isOf hZ e68 q43
      obtain ⟨_, _, ⟨T69, L69, k69, n69⟩, -, X69, ⟨Lc69, hQ69, l69, y69, z69⟩, st69⟩ := X68.virtualBack hx (y := (⟨"com/example/graphweave/graphweave/jsonld/ActiveContext", "processed", "()Lcom/example/graphweave/graphweave/jsonld/ActiveContext;"⟩ : MethodName)) (z := (⟨"com/example/graphweave/graphweave/jsonld/ActiveContext", "processed", "()Lcom/example/graphweave/graphweave/jsonld/ActiveContext;"⟩ : MethodName)) hown (mvT hZ (hw _ tw75)) (mvT hZ (hw _ tw76)) (notFace_of_selects (args := #[]) (mvT hZ (hw _ tw78))) (mvT hZ (hw _ tw78)) (mvT hZ (hw _ tw77)) (by decide) (backOf (W := 0) (rm10 l Z a0 hw [] b41 T40.heap n0 (Nat.le_trans Z0 K56.1) O57  q48) hZ (hw _ tw79) (hw _ tw31) (by decide) (by decide)) q69a q69c (g := (mkF m 184 #[.val (.int p0), .val (.int p1), .val (.int p2), .val (.int p3), .val (.int p4), .val (.int 0), .val (.int 0), .val (.int (((p3.toUInt32 >>> ((2 : Int32) &&& 31).toUInt32).toInt32) &&& (3 : Int32))), .val (.ref b13), .val (.ref w0), .val (.ref b22), .val (.ref b41)] [(.ref b41)])) rfl (by rw [hml]; rfl) (Steps.refl _) (argsL := []) (rest := []) (lenOf pd19 rfl) rfl (by show 2 * 0 + _ ≤ _; exact Nat.le_of_eq rfl) (hb hby at_184) (fun _ _ => ⟨rfl, e68, (by decide : 9 + 0 ≤ _), (by decide : 27 + 0 ≤ _)⟩)
      dsimp only [Pt.U, Pt.locs, Pt.cells, Pt.slots] at X69 l69 y69 z69 st69 hQ69
      subst l69 y69 z69
      obtain ⟨rfl, Nq69, eq69⟩ := hQ69
      have N69 := Fr.app N64 Nq69
      refine GoW.by st69 ?_
      show GoW _ _ _ _ _ _ _ (T69.setTop (mkF m 187 _ [(.ref b41)]))
      refine GoW.st (t' := T69.setTop (mkF m 196 #[.val (.int p0), .val (.int p1), .val (.int p2), .val (.int p3), .val (.int p4), .val (.int 0), .val (.int 0), .val (.int (((p3.toUInt32 >>> ((2 : Int32) &&& 31).toUInt32).toInt32) &&& (3 : Int32))), .val (.ref b13), .val (.ref w0), .val (.ref b22), .val (.ref b41)] [(.ref b22), (.ref b41)])) (fun target kt => ?_) ?_
      · refine XS.aload X69.here hx rfl (hb hby at_187) rfl rfl ?_
        refine Jvm.RoadKit.acmp (g := (mkF m 189 #[.val (.int p0), .val (.int p1), .val (.int p2), .val (.int p3), .val (.int p4), .val (.int 0), .val (.int 0), .val (.int (((p3.toUInt32 >>> ((2 : Int32) &&& 31).toUInt32).toInt32) &&& (3 : Int32))), .val (.ref b13), .val (.ref w0), .val (.ref b22), .val (.ref b41)] [(.ref b41), (.ref b41)])) X69 hx rfl rfl rfl (pc0 := 189) (pc' := 192) (same := true) rfl (hb hby at_189) rfl (decide_eq_true rfl) (by decide) (by decide) ?_
        refine XS.aload X69.here hx rfl (hb hby at_192) rfl rfl ?_
        refine XS.aload X69.here hx rfl (hb hby at_194) rfl rfl ?_
        exact kt
      have c70 := q28.keep Kq40
      have c71 := q29.keep Kq40 nin0
      have c72 := q30.keep Kq40 nin0
      have c73 := q31.keep Kq40 nin0
      have c74 := q32.keep Kq40 nin0
      have c75 := q33.keep Kq40 nin0
      obtain ⟨cq76, kq76, q76a, q76b, q76c⟩ := isOf hZ eq69 q43
      obtain ⟨_, _, ⟨T76, L76, k76, n76⟩, -, X76, ⟨Lc76, hQ76, l76, y76, z76⟩, st76⟩ := X69.virtualBack hx (y := (⟨"com/example/graphweave/graphweave/jsonld/ActiveContext", "term", "(Ljava/lang/String;)Lcom/example/graphweave/graphweave/jsonld/TermDefinition;"⟩ : MethodName)) (z := (⟨"com/example/graphweave/graphweave/jsonld/ActiveContext", "term", "(Ljava/lang/String;)Lcom/example/graphweave/graphweave/jsonld/TermDefinition;"⟩ : MethodName)) hown (mvT hZ (hw _ tw80)) (mvT hZ (hw _ tw81)) (notFace_of_selects (args := #[]) (mvT hZ (hw _ tw83))) (mvT hZ (hw _ tw83)) (mvT hZ (hw _ tw82)) (by decide) (backOf (W := 0) (rm11_r l Z a0 hw [] b41 b22 wcs wt wr b23 k24 i25 T40.heap n0 (Nat.le_trans Z0 K56.1) O57 S_CS hcs E_wt F_wt E_wr F_wr g35 q47 c70 c71 c72 c73 c74 c75) hZ (hw _ tw84) (hw _ tw31) (by decide) (by decide)) q76a q76c (g := (mkF m 196 #[.val (.int p0), .val (.int p1), .val (.int p2), .val (.int p3), .val (.int p4), .val (.int 0), .val (.int 0), .val (.int (((p3.toUInt32 >>> ((2 : Int32) &&& 31).toUInt32).toInt32) &&& (3 : Int32))), .val (.ref b13), .val (.ref w0), .val (.ref b22), .val (.ref b41)] [(.ref b22), (.ref b41)])) rfl (by rw [hml]; rfl) (Steps.refl _) (argsL := [(.ref b22)]) (rest := []) (lenOf pd15 rfl) rfl (by show 2 * 0 + _ ≤ _; exact Nat.le_of_eq rfl) (hb hby at_196) (fun _ _ => ⟨rfl, eq69, (by decide : 9 + 0 ≤ _), (by decide : 27 + 0 ≤ _)⟩)
      dsimp only [Pt.U, Pt.locs, Pt.cells, Pt.slots] at X76 l76 y76 z76 st76 hQ76
      subst l76 y76 z76
      obtain ⟨rfl, Nq76, Kq76⟩ := hQ76
      have N76 := Fr.app N69 Nq76
      have K77 := K56.trans Kq76 (allS (Or.inr sz34) all0)
      have O78 := O57.keep Kq76 (allS g35 all0)
      refine GoW.by st76 ?_
      show GoW _ _ _ _ _ _ _ (T76.setTop (mkF m 199 _ [.null]))
      refine GoW.st (t' := T76.setTop (mkF m 205 #[.val (.int p0), .val (.int p1), .val (.int p2), .val (.int p3), .val (.int p4), .val (.int 0), .val (.int 0), .val (.int (((p3.toUInt32 >>> ((2 : Int32) &&& 31).toUInt32).toInt32) &&& (3 : Int32))), .val (.ref b13), .val (.ref w0), .val (.ref b22), .val (.ref b41)] [.null, (.ref b41)])) (fun target kt => ?_) ?_
      · refine XS.ifnonnullNo X76.here hx rfl (hb hby at_199) rfl ?_
        refine XS.aload X76.here hx rfl (hb hby at_202) rfl rfl ?_
        refine XS.aconstNull X76.here hx rfl (hb hby at_204) ?_
        exact kt
      have c80 := q43.keep Kq76
      obtain ⟨cq79, kq79, q79a, q79b, q79c⟩ := isOf hZ rfl c80
      obtain ⟨_, _, ⟨T79, L79, k79, n79⟩, -, X79, ⟨Lc79, hQ79, l79, y79, z79⟩, st79⟩ := X76.virtualBack hx (y := (⟨"com/example/graphweave/graphweave/jsonld/ActiveContext", "term", "(Ljava/lang/String;)Lcom/example/graphweave/graphweave/jsonld/TermDefinition;"⟩ : MethodName)) (z := (⟨"com/example/graphweave/graphweave/jsonld/ActiveContext", "term", "(Ljava/lang/String;)Lcom/example/graphweave/graphweave/jsonld/TermDefinition;"⟩ : MethodName)) hown (mvT hZ (hw _ tw80)) (mvT hZ (hw _ tw81)) (notFace_of_selects (args := #[]) (mvT hZ (hw _ tw83))) (mvT hZ (hw _ tw83)) (mvT hZ (hw _ tw82)) (by decide) (backOf (W := 0) (rm11_n l Z a0 hw [] b41 T76.heap n0 (Nat.le_trans Z0 K77.1) O78  ) hZ (hw _ tw84) (hw _ tw31) (by decide) (by decide)) q79a q79c (g := (mkF m 205 #[.val (.int p0), .val (.int p1), .val (.int p2), .val (.int p3), .val (.int p4), .val (.int 0), .val (.int 0), .val (.int (((p3.toUInt32 >>> ((2 : Int32) &&& 31).toUInt32).toInt32) &&& (3 : Int32))), .val (.ref b13), .val (.ref w0), .val (.ref b22), .val (.ref b41)] [.null, (.ref b41)])) rfl (by rw [hml]; rfl) (Steps.refl _) (argsL := [.null]) (rest := []) (lenOf pd15 rfl) rfl (by show 2 * 0 + _ ≤ _; exact Nat.le_of_eq rfl) (hb hby at_205) (fun _ _ => ⟨rfl, rfl, (by decide : 9 + 0 ≤ _), (by decide : 27 + 0 ≤ _)⟩)
      dsimp only [Pt.U, Pt.locs, Pt.cells, Pt.slots] at X79 l79 y79 z79 st79 hQ79
      subst l79 y79 z79
      obtain ⟨rfl, Nq79, eq79⟩ := hQ79
      have N79 := Fr.app N76 Nq79
      refine GoW.by st79 ?_
      show GoW _ _ _ _ _ _ _ (T79.setTop (mkF m 208 _ [.null]))
      refine GoW.st (t' := T79.setTop (mkF m 216 #[.val (.int p0), .val (.int p1), .val (.int p2), .val (.int p3), .val (.int p4), .val (.int 0), .val (.int 0), .val (.int (((p3.toUInt32 >>> ((2 : Int32) &&& 31).toUInt32).toInt32) &&& (3 : Int32))), .val (.ref b13), .val (.ref w0), .val (.ref b22), .val (.ref b41)] [(.int 1)])) (fun target kt => ?_) ?_
      · refine XS.ifnonnullNo X79.here hx rfl (hb hby at_208) rfl ?_
        refine XS.iconst X79.here hx rfl (hb hby at_211) ?_
        refine XS.goto X79.here hx rfl (pc0 := 212) (pc' := 216) rfl (hb hby at_212) (by decide) (by decide) ?_
        exact kt
      refine GoW.ret X79 hSi (by rw [eq79]; exact (Nat.le_trans (Nat.le_refl _) (Nat.le_trans (Nat.le_trans Kq21.1 Kq40.1) Kq76.1))) (v := some (.int 1)) (fun h => by rw [hret] at h; cases h) hlk (fun fs hr => retN X79 hx (t := .boolean) hret (by simp) (hb hby at_216) hr) ?_ (by decide) (by decide)
      show Q0 Z p0 p1 p2 p3 p4 w0 w1 wt wr wcs h0 n0 _ T79.heap _
      rw [eq79]
      exact ⟨rfl, N79, K77⟩
    · refine GoW.st (t' := s₁.setTop (mkF m 47 #[.val (.int p0), .val (.int p1), .val (.int p2), .val (.int p3), .val (.int p4), .val (.int 0), .val (.int 1), .val (.int (((p3.toUInt32 >>> ((2 : Int32) &&& 31).toUInt32).toInt32) &&& (3 : Int32))), .unset, .unset, .unset, .unset] [(.int p2), (.int p1), (.int p0), (.int (((p3.toUInt32 >>> ((2 : Int32) &&& 31).toUInt32).toInt32) &&& (3 : Int32)))])) (fun target kt => ?_) ?_
      · refine XS.ifNo X0.here hx rfl (hb hby at_16) rfl ((if0 _ _).trans (feq hc11).1) ?_
        refine XS.iconst X0.here hx rfl (hb hby at_19) ?_
        refine XS.goto X0.here hx rfl (pc0 := 20) (pc' := 24) rfl (hb hby at_20) (by decide) (by decide) ?_
        refine XS.istore X0.here hx rfl (hb hby at_24) rfl (l' := #[.val (.int p0), .val (.int p1), .val (.int p2), .val (.int p3), .val (.int p4), .val (.int 0), .val (.int 1), .unset, .unset, .unset, .unset, .unset]) rfl ?_
        refine XS.iloadN X0.here hx rfl (hb hby at_26) rfl ?_
        refine XS.iconst X0.here hx rfl (hb hby at_27) ?_
        refine XS.iushr X0.here hx rfl (hb hby at_28) rfl ?_
        refine XS.iconst X0.here hx rfl (hb hby at_29) ?_
        refine XS.iand X0.here hx rfl (hb hby at_30) rfl ?_
        refine XS.istore X0.here hx rfl (hb hby at_31) rfl (l' := #[.val (.int p0), .val (.int p1), .val (.int p2), .val (.int p3), .val (.int p4), .val (.int 0), .val (.int 1), .val (.int (((p3.toUInt32 >>> ((2 : Int32) &&& 31).toUInt32).toInt32) &&& (3 : Int32))), .unset, .unset, .unset, .unset]) rfl ?_
        refine XS.iload X0.here hx rfl (hb hby at_33) rfl ?_
        refine XS.ifYes X0.here hx rfl (pc0 := 35) (pc' := 42) rfl (hb hby at_35) rfl ((if0 _ _).trans (teq (by decide : (0 : Int32) = (0 : Int32))).1) (by decide) (by decide) ?_
        refine XS.iload X0.here hx rfl (hb hby at_42) rfl ?_
        refine XS.iloadN X0.here hx rfl (hb hby at_44) rfl ?_
        refine XS.iloadN X0.here hx rfl (hb hby at_45) rfl ?_
        refine XS.iloadN X0.here hx rfl (hb hby at_46) rfl ?_
        exact kt
      obtain ⟨_, _, ⟨T81, L81, k81, n81⟩, -, X81, hSn81, hgr81, ⟨Lc81, hQ81, l81, y81, z81⟩, st81⟩ := callSS X0 hx (y := (⟨"com/example/graphweave/graphweave/jsonld/ActiveContextInitialPinLaw", "str", "(IIII)Ljava/lang/String;"⟩ : MethodName)) hown (mvT hZ (hw _ tw118)) (mvT hZ (hw _ tw119)) (mvT hZ (hw _ tw57)) (mvT hZ (hw _ tw120)) (by decide) (own_backOfSP (s := s) (xs := []) (W := 0) (rm17 l Z a0 hw [] (((p3.toUInt32 >>> ((2 : Int32) &&& 31).toUInt32).toInt32) &&& (3 : Int32)) p0 p1 p2 wcs h0 n0 (Nat.le_trans Z0 K0.1) O0 S_CS hcs ) hZ (hw _ tw120) (hw _ tw57) (by decide) (by decide) hEL ch0.1 all0) (g := (mkF m 47 #[.val (.int p0), .val (.int p1), .val (.int p2), .val (.int p3), .val (.int p4), .val (.int 0), .val (.int 1), .val (.int (((p3.toUInt32 >>> ((2 : Int32) &&& 31).toUInt32).toInt32) &&& (3 : Int32))), .unset, .unset, .unset, .unset] [(.int p2), (.int p1), (.int p0), (.int (((p3.toUInt32 >>> ((2 : Int32) &&& 31).toUInt32).toInt32) &&& (3 : Int32)))])) rfl (by rw [hml]; rfl) (argsL := [(.int (((p3.toUInt32 >>> ((2 : Int32) &&& 31).toUInt32).toInt32) &&& (3 : Int32))), (.int p0), (.int p1), (.int p2)]) (rest := []) (lenOf pd16 rfl) rfl (by show 2 * 0 + _ ≤ _; exact Nat.le_of_eq rfl) (hb hby at_47) (fun _ _ => ⟨rfl, e0, (by decide : 0 + 6 ≤ _), (by decide : 0 + 12 ≤ _)⟩)
      dsimp only [Pt.U, Pt.locs, Pt.cells, Pt.slots] at X81 l81 y81 z81 st81 hQ81 hSn81 hgr81
      subst l81 y81 z81
      have hSi := foldS hSi (by rw [e0]; exact (Nat.zero_le _)) hSn81 hgr81
      have hown : T81.vm.findClass "com/example/graphweave/graphweave/jsonld/ActiveContextInitialPinLaw" = some m.cls := by rw [hSn81.1.alike.findClass]; exact hown
      have hZ : Z.Warmed39 T81.vm := State.Warmed39.trans (t := (s.setVm s.vm)) hZ hSn81.1
      have X81 : Stand p l e room_1 (s.setVm T81.vm) m #[(.int p0), (.int p1), (.int p2), (.int p3), (.int p4)] below meth c T81 _ _ _ := X81
      obtain ⟨b82, rfl, Nq81, Kq81, q83, q84⟩ := hQ81
      have N81 := Fr.app N0 Nq81
      have sz85 : h0.size ≤ b82 := Nat.le_trans K0.1 q83
      have g86 : n0 ≤ b82 := Nat.le_trans Z0 sz85
      have K87 := K0.trans Kq81 all0
      have O88 := O0.keep Kq81 all0
      refine GoW.by st81 ?_
      show GoW _ _ _ _ _ _ _ (T81.setTop (mkF m 50 _ [(.ref b82)]))
      refine GoW.st (t' := T81.setTop (mkF m 57 #[.val (.int p0), .val (.int p1), .val (.int p2), .val (.int p3), .val (.int p4), .val (.int 0), .val (.int 1), .val (.int (((p3.toUInt32 >>> ((2 : Int32) &&& 31).toUInt32).toInt32) &&& (3 : Int32))), .val (.ref b82), .unset, .unset, .unset] [])) (fun target kt => ?_) ?_
      · refine XS.astore X81.here hx rfl (hb hby at_50) rfl rfl (l' := #[.val (.int p0), .val (.int p1), .val (.int p2), .val (.int p3), .val (.int p4), .val (.int 0), .val (.int 1), .val (.int (((p3.toUInt32 >>> ((2 : Int32) &&& 31).toUInt32).toInt32) &&& (3 : Int32))), .val (.ref b82), .unset, .unset, .unset]) rfl ?_
        refine XS.iload X81.here hx rfl (hb hby at_52) rfl ?_
        refine XS.ifNo X81.here hx rfl (hb hby at_54) rfl ((if0 _ _).trans (feq (by decide : ¬ ((1 : Int32) = (0 : Int32)))).1) ?_
        exact kt
      obtain ⟨T89, X89, e89, st89⟩ := getS2 X81 hx hZ hown (host := "") (Or.inl (hw _ tw116)) Via.refl rfl (S_11.ext O88.2) (g := (mkF m 57 #[.val (.int p0), .val (.int p1), .val (.int p2), .val (.int p3), .val (.int p4), .val (.int 0), .val (.int 1), .val (.int (((p3.toUInt32 >>> ((2 : Int32) &&& 31).toUInt32).toInt32) &&& (3 : Int32))), .val (.ref b82), .unset, .unset, .unset] [])) rfl (hb hby at_57)
      refine GoW.st st89 ?_
      show GoW _ _ _ _ _ _ _ (T89.setTop (mkF m 60 _ [(.ref w1)]))
      refine GoW.st (t' := T89.setTop (mkF m 75 #[.val (.int p0), .val (.int p1), .val (.int p2), .val (.int p3), .val (.int p4), .val (.int 0), .val (.int 1), .val (.int (((p3.toUInt32 >>> ((2 : Int32) &&& 31).toUInt32).toInt32) &&& (3 : Int32))), .val (.ref b82), .val (.ref w1), .unset, .unset] [(.int ((p4 &&& (255 : Int32)).toUInt32.toUInt16.toUInt32.toInt32))])) (fun target kt => ?_) ?_
      · refine XS.goto X89.here hx rfl (pc0 := 60) (pc' := 66) rfl (hb hby at_60) (by decide) (by decide) ?_
        refine XS.astore X89.here hx rfl (hb hby at_66) rfl rfl (l' := #[.val (.int p0), .val (.int p1), .val (.int p2), .val (.int p3), .val (.int p4), .val (.int 0), .val (.int 1), .val (.int (((p3.toUInt32 >>> ((2 : Int32) &&& 31).toUInt32).toInt32) &&& (3 : Int32))), .val (.ref b82), .val (.ref w1), .unset, .unset]) rfl ?_
        refine XS.iload X89.here hx rfl (hb hby at_68) rfl ?_
        refine XS.sipush X89.here hx rfl (hb hby at_70) ?_
        refine XS.iand X89.here hx rfl (hb hby at_73) rfl ?_
        refine XS.i2c X89.here hx rfl (hb hby at_74) rfl ?_
        exact kt
      obtain ⟨_, _, ⟨T90, L90, k90, n90⟩, -, X90, ⟨Lc90, hQ90, l90, y90, z90⟩, st90⟩ := Jvm.LawKit.callS X89 hx (y := (⟨"java/lang/String", "valueOf", "(C)Ljava/lang/String;"⟩ : MethodName)) hown (mvT hZ (hw _ tw3)) (mvT hZ (hw _ tw4)) (mvT hZ (hw _ tw5)) (mvT hZ (hw _ tw6)) (by decide) (backOf (W := 0) (rm1 l Z a0 hw [] ((p4 &&& (255 : Int32)).toUInt32.toUInt16.toUInt32.toInt32) wcs T81.heap n0 (Nat.le_trans Z0 K87.1) O88 S_CS hcs (own_c255 p4)) hZ (hw _ tw6) (hw _ tw5) (by decide) (by decide)) (g := (mkF m 75 #[.val (.int p0), .val (.int p1), .val (.int p2), .val (.int p3), .val (.int p4), .val (.int 0), .val (.int 1), .val (.int (((p3.toUInt32 >>> ((2 : Int32) &&& 31).toUInt32).toInt32) &&& (3 : Int32))), .val (.ref b82), .val (.ref w1), .unset, .unset] [(.int ((p4 &&& (255 : Int32)).toUInt32.toUInt16.toUInt32.toInt32))])) rfl (by rw [hml]; rfl) (argsL := [(.int ((p4 &&& (255 : Int32)).toUInt32.toUInt16.toUInt32.toInt32))]) (rest := []) (lenOf pd8 rfl) rfl (by show 2 * 0 + _ ≤ _; exact Nat.le_of_eq rfl) (hb hby at_75) (fun _ _ => ⟨rfl, e89, (by decide : 6 + 2 ≤ _), (by decide : 12 + 5 ≤ _)⟩)
      dsimp only [Pt.U, Pt.locs, Pt.cells, Pt.slots] at X90 l90 y90 z90 st90 hQ90
      subst l90 y90 z90
      obtain ⟨b91, b92, k93, i94, rfl, Nq90, Kq90, q95, q96, q97, q98, q99, q100, q101, q102⟩ := hQ90
      have N90 := Fr.app N81 Nq90
      have sz103 : h0.size ≤ b91 := Nat.le_trans K87.1 q95
      have g104 : n0 ≤ b91 := Nat.le_trans Z0 sz103
      have sz105 : h0.size ≤ b92 := Nat.le_trans K87.1 q96
      have g106 : n0 ≤ b92 := Nat.le_trans Z0 sz105
      have K107 := K87.trans Kq90 all0
      have O108 := O88.keep Kq90 all0
      refine GoW.st st90 ?_
      show GoW _ _ _ _ _ _ _ (T90.setTop (mkF m 78 _ [(.ref b91)]))
      refine GoW.st (t' := T90.setTop (mkF m 84 #[.val (.int p0), .val (.int p1), .val (.int p2), .val (.int p3), .val (.int p4), .val (.int 0), .val (.int 1), .val (.int (((p3.toUInt32 >>> ((2 : Int32) &&& 31).toUInt32).toInt32) &&& (3 : Int32))), .val (.ref b82), .val (.ref w1), .val (.ref b91), .unset] [(.ref w1), (.ref b82)])) (fun target kt => ?_) ?_
      · refine XS.astore X90.here hx rfl (hb hby at_78) rfl rfl (l' := #[.val (.int p0), .val (.int p1), .val (.int p2), .val (.int p3), .val (.int p4), .val (.int 0), .val (.int 1), .val (.int (((p3.toUInt32 >>> ((2 : Int32) &&& 31).toUInt32).toInt32) &&& (3 : Int32))), .val (.ref b82), .val (.ref w1), .val (.ref b91), .unset]) rfl ?_
        refine XS.aload X90.here hx rfl (hb hby at_80) rfl rfl ?_
        refine XS.aload X90.here hx rfl (hb hby at_82) rfl rfl ?_
        exact kt
      obtain ⟨_, _, ⟨T109, L109, k109, n109⟩, -, X109, ⟨Lc109, hQ109, l109, y109, z109⟩, st109⟩ := Jvm.LawKit.callS X90 hx (y := (⟨"com/example/graphweave/graphweave/jsonld/ActiveContext", "initial", "(Ljava/lang/String;Lcom/example/graphweave/graphweave/jsonld/ProcessingMode;)Lcom/example/graphweave/graphweave/jsonld/ActiveContext;"⟩ : MethodName)) hown (mvT hZ (hw _ tw29)) (mvT hZ (hw _ tw30)) (mvT hZ (hw _ tw31)) (mvT hZ (hw _ tw32)) (by decide) (backOf (W := 0) (rm6_r l Z a0 hw [] b82 w1 wt wr T90.heap n0 (Nat.le_trans Z0 K107.1) O108 S_EM ) hZ (hw _ tw32) (hw _ tw31) (by decide) (by decide)) (g := (mkF m 84 #[.val (.int p0), .val (.int p1), .val (.int p2), .val (.int p3), .val (.int p4), .val (.int 0), .val (.int 1), .val (.int (((p3.toUInt32 >>> ((2 : Int32) &&& 31).toUInt32).toInt32) &&& (3 : Int32))), .val (.ref b82), .val (.ref w1), .val (.ref b91), .unset] [(.ref w1), (.ref b82)])) rfl (by rw [hml]; rfl) (argsL := [(.ref b82), (.ref w1)]) (rest := []) (lenOf pd17 rfl) rfl (by show 2 * 0 + _ ≤ _; exact Nat.le_of_eq rfl) (hb hby at_84) (fun _ _ => ⟨rfl, rfl, (by decide : 8 + 1 ≤ _), (by decide : 17 + 10 ≤ _)⟩)
      dsimp only [Pt.U, Pt.locs, Pt.cells, Pt.slots] at X109 l109 y109 z109 st109 hQ109
      subst l109 y109 z109
      obtain ⟨b110, rfl, Nq109, Kq109, q111, q112, q113, q114, q115, q116, q117, q118, q119, q120, q121, q122⟩ := hQ109
      have N109 := Fr.app N90 Nq109
      have sz123 : h0.size ≤ b110 := Nat.le_trans K107.1 q111
      have g124 : n0 ≤ b110 := Nat.le_trans Z0 sz123
      have K125 := K107.trans Kq109 all0
      have O126 := O108.keep Kq109 all0
      refine GoW.st st109 ?_
      show GoW _ _ _ _ _ _ _ (T109.setTop (mkF m 87 _ [(.ref b110)]))
      refine GoW.st (t' := T109.setTop (mkF m 98 #[.val (.int p0), .val (.int p1), .val (.int p2), .val (.int p3), .val (.int p4), .val (.int 0), .val (.int 1), .val (.int (((p3.toUInt32 >>> ((2 : Int32) &&& 31).toUInt32).toInt32) &&& (3 : Int32))), .val (.ref b82), .val (.ref w1), .val (.ref b91), .val (.ref b110)] [(.ref b110)])) (fun target kt => ?_) ?_
      · refine XS.astore X109.here hx rfl (hb hby at_87) rfl rfl (l' := #[.val (.int p0), .val (.int p1), .val (.int p2), .val (.int p3), .val (.int p4), .val (.int 0), .val (.int 1), .val (.int (((p3.toUInt32 >>> ((2 : Int32) &&& 31).toUInt32).toInt32) &&& (3 : Int32))), .val (.ref b82), .val (.ref w1), .val (.ref b91), .val (.ref b110)]) rfl ?_
        refine XS.aload X109.here hx rfl (hb hby at_89) rfl rfl ?_
        refine XS.ifnonnullYes X109.here hx rfl (pc0 := 91) (pc' := 96) rfl (hb hby at_91) rfl (by decide) (by decide) ?_
        refine XS.aload X109.here hx rfl (hb hby at_96) rfl rfl ?_
        exact kt
      obtain ⟨T127, X127, e127, st127⟩ := getF X109 hx hZ hown (host := "") (Or.inl (hw _ tw54)) Via.refl rfl q113 (g := (mkF m 98 #[.val (.int p0), .val (.int p1), .val (.int p2), .val (.int p3), .val (.int p4), .val (.int 0), .val (.int 1), .val (.int (((p3.toUInt32 >>> ((2 : Int32) &&& 31).toUInt32).toInt32) &&& (3 : Int32))), .val (.ref b82), .val (.ref w1), .val (.ref b91), .val (.ref b110)] [(.ref b110)])) rfl rfl (hb hby at_98)
      refine GoW.st st127 ?_
      show GoW _ _ _ _ _ _ _ (T127.setTop (mkF m 101 _ [(.ref b82)]))
      refine GoW.st (t' := T127.setTop (mkF m 103 #[.val (.int p0), .val (.int p1), .val (.int p2), .val (.int p3), .val (.int p4), .val (.int 0), .val (.int 1), .val (.int (((p3.toUInt32 >>> ((2 : Int32) &&& 31).toUInt32).toInt32) &&& (3 : Int32))), .val (.ref b82), .val (.ref w1), .val (.ref b91), .val (.ref b110)] [(.ref b82), (.ref b82)])) (fun target kt => ?_) ?_
      · refine XS.aload X127.here hx rfl (hb hby at_101) rfl rfl ?_
        exact kt
      have c128 := (q84.keep Kq90).keep Kq109
      obtain ⟨_, _, ⟨T129, L129, k129, n129⟩, -, X129, ⟨Lc129, hQ129, l129, y129, z129⟩, st129⟩ := Jvm.LawKit.callS X127 hx (y := (⟨"com/example/graphweave/graphweave/jsonld/ActiveContextInitialPinLaw", "same", "(Ljava/lang/String;Ljava/lang/String;)Z"⟩ : MethodName)) hown (mvT hZ (hw _ tw55)) (mvT hZ (hw _ tw56)) (mvT hZ (hw _ tw57)) (mvT hZ (hw _ tw58)) (by decide) (backOf (W := 0) (rm8_r l Z a0 hw [] b82 T109.heap n0 (Nat.le_trans Z0 K125.1) O126  c128) hZ (hw _ tw58) (hw _ tw57) (by decide) (by decide)) (g := (mkF m 103 #[.val (.int p0), .val (.int p1), .val (.int p2), .val (.int p3), .val (.int p4), .val (.int 0), .val (.int 1), .val (.int (((p3.toUInt32 >>> ((2 : Int32) &&& 31).toUInt32).toInt32) &&& (3 : Int32))), .val (.ref b82), .val (.ref w1), .val (.ref b91), .val (.ref b110)] [(.ref b82), (.ref b82)])) rfl (by rw [hml]; rfl) (argsL := [(.ref b82), (.ref b82)]) (rest := []) (lenOf pd18 rfl) rfl (by show 2 * 0 + _ ≤ _; exact Nat.le_of_eq rfl) (hb hby at_103) (fun _ _ => ⟨rfl, e127, (by decide : 9 + 0 ≤ _), (by decide : 27 + 0 ≤ _)⟩)
      dsimp only [Pt.U, Pt.locs, Pt.cells, Pt.slots] at X129 l129 y129 z129 st129 hQ129
      subst l129 y129 z129
      obtain ⟨rfl, Nq129, eq129⟩ := hQ129
      have N129 := Fr.app N109 Nq129
      refine GoW.st st129 ?_
      show GoW _ _ _ _ _ _ _ (T129.setTop (mkF m 106 _ [(.int 1)]))
      refine GoW.st (t' := T129.setTop (mkF m 111 #[.val (.int p0), .val (.int p1), .val (.int p2), .val (.int p3), .val (.int p4), .val (.int 0), .val (.int 1), .val (.int (((p3.toUInt32 >>> ((2 : Int32) &&& 31).toUInt32).toInt32) &&& (3 : Int32))), .val (.ref b82), .val (.ref w1), .val (.ref b91), .val (.ref b110)] [(.ref b110)])) (fun target kt => ?_) ?_
      · refine XS.ifNo X129.here hx rfl (hb hby at_106) rfl ((if0 _ _).trans (feq (by decide : ¬ ((1 : Int32) = (0 : Int32)))).1) ?_
        refine XS.aload X129.here hx rfl (hb hby at_109) rfl rfl ?_
        exact kt
      obtain ⟨T130, X130, e130, st130⟩ := getF X129 hx hZ hown (host := "") (Or.inl (hw _ tw59)) Via.refl eq129 q115 (g := (mkF m 111 #[.val (.int p0), .val (.int p1), .val (.int p2), .val (.int p3), .val (.int p4), .val (.int 0), .val (.int 1), .val (.int (((p3.toUInt32 >>> ((2 : Int32) &&& 31).toUInt32).toInt32) &&& (3 : Int32))), .val (.ref b82), .val (.ref w1), .val (.ref b91), .val (.ref b110)] [(.ref b110)])) rfl rfl (hb hby at_111)
      refine GoW.st st130 ?_
      show GoW _ _ _ _ _ _ _ (T130.setTop (mkF m 114 _ [(.ref b82)]))
      refine GoW.st (t' := T130.setTop (mkF m 116 #[.val (.int p0), .val (.int p1), .val (.int p2), .val (.int p3), .val (.int p4), .val (.int 0), .val (.int 1), .val (.int (((p3.toUInt32 >>> ((2 : Int32) &&& 31).toUInt32).toInt32) &&& (3 : Int32))), .val (.ref b82), .val (.ref w1), .val (.ref b91), .val (.ref b110)] [(.ref b82), (.ref b82)])) (fun target kt => ?_) ?_
      · refine XS.aload X130.here hx rfl (hb hby at_114) rfl rfl ?_
        exact kt
      obtain ⟨_, _, ⟨T131, L131, k131, n131⟩, -, X131, ⟨Lc131, hQ131, l131, y131, z131⟩, st131⟩ := Jvm.LawKit.callS X130 hx (y := (⟨"com/example/graphweave/graphweave/jsonld/ActiveContextInitialPinLaw", "same", "(Ljava/lang/String;Ljava/lang/String;)Z"⟩ : MethodName)) hown (mvT hZ (hw _ tw55)) (mvT hZ (hw _ tw56)) (mvT hZ (hw _ tw57)) (mvT hZ (hw _ tw58)) (by decide) (backOf (W := 0) (rm8_r l Z a0 hw [] b82 T109.heap n0 (Nat.le_trans Z0 K125.1) O126  c128) hZ (hw _ tw58) (hw _ tw57) (by decide) (by decide)) (g := (mkF m 116 #[.val (.int p0), .val (.int p1), .val (.int p2), .val (.int p3), .val (.int p4), .val (.int 0), .val (.int 1), .val (.int (((p3.toUInt32 >>> ((2 : Int32) &&& 31).toUInt32).toInt32) &&& (3 : Int32))), .val (.ref b82), .val (.ref w1), .val (.ref b91), .val (.ref b110)] [(.ref b82), (.ref b82)])) rfl (by rw [hml]; rfl) (argsL := [(.ref b82), (.ref b82)]) (rest := []) (lenOf pd18 rfl) rfl (by show 2 * 0 + _ ≤ _; exact Nat.le_of_eq rfl) (hb hby at_116) (fun _ _ => ⟨rfl, e130, (by decide : 9 + 0 ≤ _), (by decide : 27 + 0 ≤ _)⟩)
      dsimp only [Pt.U, Pt.locs, Pt.cells, Pt.slots] at X131 l131 y131 z131 st131 hQ131
      subst l131 y131 z131
      obtain ⟨rfl, Nq131, eq131⟩ := hQ131
      have N131 := Fr.app N129 Nq131
      refine GoW.st st131 ?_
      show GoW _ _ _ _ _ _ _ (T131.setTop (mkF m 119 _ [(.int 1)]))
      refine GoW.st (t' := T131.setTop (mkF m 124 #[.val (.int p0), .val (.int p1), .val (.int p2), .val (.int p3), .val (.int p4), .val (.int 0), .val (.int 1), .val (.int (((p3.toUInt32 >>> ((2 : Int32) &&& 31).toUInt32).toInt32) &&& (3 : Int32))), .val (.ref b82), .val (.ref w1), .val (.ref b91), .val (.ref b110)] [(.ref b110)])) (fun target kt => ?_) ?_
      · refine XS.ifNo X131.here hx rfl (hb hby at_119) rfl ((if0 _ _).trans (feq (by decide : ¬ ((1 : Int32) = (0 : Int32)))).1) ?_
        refine XS.aload X131.here hx rfl (hb hby at_122) rfl rfl ?_
        exact kt
      obtain ⟨T132, X132, e132, st132⟩ := getF X131 hx hZ hown (host := "") (Or.inl (hw _ tw60)) Via.refl eq131 q114 (g := (mkF m 124 #[.val (.int p0), .val (.int p1), .val (.int p2), .val (.int p3), .val (.int p4), .val (.int 0), .val (.int 1), .val (.int (((p3.toUInt32 >>> ((2 : Int32) &&& 31).toUInt32).toInt32) &&& (3 : Int32))), .val (.ref b82), .val (.ref w1), .val (.ref b91), .val (.ref b110)] [(.ref b110)])) rfl rfl (hb hby at_124)
      refine GoW.st st132 ?_
      show GoW _ _ _ _ _ _ _ (T132.setTop (mkF m 127 _ [(.ref w1)]))
      refine GoW.st (t' := T132.setTop (mkF m 134 #[.val (.int p0), .val (.int p1), .val (.int p2), .val (.int p3), .val (.int p4), .val (.int 0), .val (.int 1), .val (.int (((p3.toUInt32 >>> ((2 : Int32) &&& 31).toUInt32).toInt32) &&& (3 : Int32))), .val (.ref b82), .val (.ref w1), .val (.ref b91), .val (.ref b110)] [(.ref b110)])) (fun target kt => ?_) ?_
      · refine XS.aload X132.here hx rfl (hb hby at_127) rfl rfl ?_
        refine Jvm.RoadKit.acmp (g := (mkF m 129 #[.val (.int p0), .val (.int p1), .val (.int p2), .val (.int p3), .val (.int p4), .val (.int 0), .val (.int 1), .val (.int (((p3.toUInt32 >>> ((2 : Int32) &&& 31).toUInt32).toInt32) &&& (3 : Int32))), .val (.ref b82), .val (.ref w1), .val (.ref b91), .val (.ref b110)] [(.ref w1), (.ref w1)])) X132 hx rfl rfl rfl (pc0 := 129) (pc' := 132) (same := true) rfl (hb hby at_129) rfl (decide_eq_true rfl) (by decide) (by decide) ?_
        refine XS.aload X132.here hx rfl (hb hby at_132) rfl rfl ?_
        exact kt
      obtain ⟨cq133, kq133, q133a, q133b, q133c⟩ := isOf hZ e132 q112
      obtain ⟨_, _, ⟨T133, L133, k133, n133⟩, -, X133, ⟨Lc133, hQ133, l133, y133, z133⟩, st133⟩ := X132.virtualBack hx (y := (⟨"com/example/graphweave/graphweave/jsonld/ActiveContext", "isJsonLd10", "()Z"⟩ : MethodName)) (z := (⟨"com/example/graphweave/graphweave/jsonld/ActiveContext", "isJsonLd10", "()Z"⟩ : MethodName)) hown (mvT hZ (hw _ tw61)) (mvT hZ (hw _ tw62)) (notFace_of_selects (args := #[]) (mvT hZ (hw _ tw64))) (mvT hZ (hw _ tw64)) (mvT hZ (hw _ tw63)) (by decide) (backOf (W := 0) (rm9_1 l Z a0 hw [] b110 w0 w1 T109.heap n0 (Nat.le_trans Z0 K125.1) O126 S_10 hpm q114) hZ (hw _ tw65) (hw _ tw31) (by decide) (by decide)) q133a q133c (g := (mkF m 134 #[.val (.int p0), .val (.int p1), .val (.int p2), .val (.int p3), .val (.int p4), .val (.int 0), .val (.int 1), .val (.int (((p3.toUInt32 >>> ((2 : Int32) &&& 31).toUInt32).toInt32) &&& (3 : Int32))), .val (.ref b82), .val (.ref w1), .val (.ref b91), .val (.ref b110)] [(.ref b110)])) rfl (by rw [hml]; rfl) (Steps.refl _) (argsL := []) (rest := []) (lenOf pd11 rfl) rfl (by show 2 * 0 + _ ≤ _; exact Nat.le_of_eq rfl) (hb hby at_134) (fun _ _ => ⟨rfl, e132, (by decide : 9 + 0 ≤ _), (by decide : 27 + 0 ≤ _)⟩)
      dsimp only [Pt.U, Pt.locs, Pt.cells, Pt.slots] at X133 l133 y133 z133 st133 hQ133
      subst l133 y133 z133
      obtain ⟨rfl, Nq133, eq133⟩ := hQ133
      have N133 := Fr.app N131 Nq133
      refine GoW.by st133 ?_
      show GoW _ _ _ _ _ _ _ (T133.setTop (mkF m 137 _ [(.int 0)]))
      refine GoW.st (t' := T133.setTop (mkF m 152 #[.val (.int p0), .val (.int p1), .val (.int p2), .val (.int p3), .val (.int p4), .val (.int 0), .val (.int 1), .val (.int (((p3.toUInt32 >>> ((2 : Int32) &&& 31).toUInt32).toInt32) &&& (3 : Int32))), .val (.ref b82), .val (.ref w1), .val (.ref b91), .val (.ref b110)] [(.ref b110)])) (fun target kt => ?_) ?_
      · refine XS.iload X133.here hx rfl (hb hby at_137) rfl ?_
        refine XS.ifYes X133.here hx rfl (pc0 := 139) (pc' := 146) rfl (hb hby at_139) rfl ((if0 _ _).trans (feq (by decide : ¬ ((1 : Int32) = (0 : Int32)))).2) (by decide) (by decide) ?_
        refine XS.iconst X133.here hx rfl (hb hby at_146) ?_
        refine XS.icmpNo X133.here hx rfl (hb hby at_147) rfl (teq (by decide : (0 : Int32) = (0 : Int32))).2 ?_
        refine XS.aload X133.here hx rfl (hb hby at_150) rfl rfl ?_
        exact kt
      obtain ⟨T134, X134, e134, st134⟩ := getF X133 hx hZ hown (host := "") (Or.inl (hw _ tw67)) Via.refl eq133 q119 (g := (mkF m 152 #[.val (.int p0), .val (.int p1), .val (.int p2), .val (.int p3), .val (.int p4), .val (.int 0), .val (.int 1), .val (.int (((p3.toUInt32 >>> ((2 : Int32) &&& 31).toUInt32).toInt32) &&& (3 : Int32))), .val (.ref b82), .val (.ref w1), .val (.ref b91), .val (.ref b110)] [(.ref b110)])) rfl rfl (hb hby at_152)
      refine GoW.st st134 ?_
      show GoW _ _ _ _ _ _ _ (T134.setTop (mkF m 155 _ [.null]))
      refine GoW.st (t' := T134.setTop (mkF m 160 #[.val (.int p0), .val (.int p1), .val (.int p2), .val (.int p3), .val (.int p4), .val (.int 0), .val (.int 1), .val (.int (((p3.toUInt32 >>> ((2 : Int32) &&& 31).toUInt32).toInt32) &&& (3 : Int32))), .val (.ref b82), .val (.ref w1), .val (.ref b91), .val (.ref b110)] [(.ref b110)])) (fun target kt => ?_) ?_
      · refine XS.ifnonnullNo X134.here hx rfl (hb hby at_155) rfl ?_
        refine XS.aload X134.here hx rfl (hb hby at_158) rfl rfl ?_
        exact kt
      obtain ⟨T135, X135, e135, st135⟩ := getF X134 hx hZ hown (host := "") (Or.inl (hw _ tw69)) Via.refl e134 q120 (g := (mkF m 160 #[.val (.int p0), .val (.int p1), .val (.int p2), .val (.int p3), .val (.int p4), .val (.int 0), .val (.int 1), .val (.int (((p3.toUInt32 >>> ((2 : Int32) &&& 31).toUInt32).toInt32) &&& (3 : Int32))), .val (.ref b82), .val (.ref w1), .val (.ref b91), .val (.ref b110)] [(.ref b110)])) rfl rfl (hb hby at_160)
      refine GoW.st st135 ?_
      show GoW _ _ _ _ _ _ _ (T135.setTop (mkF m 163 _ [.null]))
      refine GoW.st (t' := T135.setTop (mkF m 168 #[.val (.int p0), .val (.int p1), .val (.int p2), .val (.int p3), .val (.int p4), .val (.int 0), .val (.int 1), .val (.int (((p3.toUInt32 >>> ((2 : Int32) &&& 31).toUInt32).toInt32) &&& (3 : Int32))), .val (.ref b82), .val (.ref w1), .val (.ref b91), .val (.ref b110)] [(.ref b110)])) (fun target kt => ?_) ?_
      · refine XS.ifnonnullNo X135.here hx rfl (hb hby at_163) rfl ?_
        refine XS.aload X135.here hx rfl (hb hby at_166) rfl rfl ?_
        exact kt
      obtain ⟨T136, X136, e136, st136⟩ := getF X135 hx hZ hown (host := "") (Or.inl (hw _ tw71)) Via.refl e135 q121 (g := (mkF m 168 #[.val (.int p0), .val (.int p1), .val (.int p2), .val (.int p3), .val (.int p4), .val (.int 0), .val (.int 1), .val (.int (((p3.toUInt32 >>> ((2 : Int32) &&& 31).toUInt32).toInt32) &&& (3 : Int32))), .val (.ref b82), .val (.ref w1), .val (.ref b91), .val (.ref b110)] [(.ref b110)])) rfl rfl (hb hby at_168)
      refine GoW.st st136 ?_
      show GoW _ _ _ _ _ _ _ (T136.setTop (mkF m 171 _ [.null]))
      refine GoW.st (t' := T136.setTop (mkF m 176 #[.val (.int p0), .val (.int p1), .val (.int p2), .val (.int p3), .val (.int p4), .val (.int 0), .val (.int 1), .val (.int (((p3.toUInt32 >>> ((2 : Int32) &&& 31).toUInt32).toInt32) &&& (3 : Int32))), .val (.ref b82), .val (.ref w1), .val (.ref b91), .val (.ref b110)] [(.ref b110)])) (fun target kt => ?_) ?_
      · refine XS.ifnonnullNo X136.here hx rfl (hb hby at_171) rfl ?_
        refine XS.aload X136.here hx rfl (hb hby at_174) rfl rfl ?_
        exact kt
      obtain ⟨T137, X137, e137, st137⟩ := getF X136 hx hZ hown (host := "") (Or.inl (hw _ tw73)) Via.refl e136 q122 (g := (mkF m 176 #[.val (.int p0), .val (.int p1), .val (.int p2), .val (.int p3), .val (.int p4), .val (.int 0), .val (.int 1), .val (.int (((p3.toUInt32 >>> ((2 : Int32) &&& 31).toUInt32).toInt32) &&& (3 : Int32))), .val (.ref b82), .val (.ref w1), .val (.ref b91), .val (.ref b110)] [(.ref b110)])) rfl rfl (hb hby at_176)
      refine GoW.st st137 ?_
      show GoW _ _ _ _ _ _ _ (T137.setTop (mkF m 179 _ [.null]))
      refine GoW.st (t' := T137.setTop (mkF m 184 #[.val (.int p0), .val (.int p1), .val (.int p2), .val (.int p3), .val (.int p4), .val (.int 0), .val (.int 1), .val (.int (((p3.toUInt32 >>> ((2 : Int32) &&& 31).toUInt32).toInt32) &&& (3 : Int32))), .val (.ref b82), .val (.ref w1), .val (.ref b91), .val (.ref b110)] [(.ref b110)])) (fun target kt => ?_) ?_
      · refine XS.ifnonnullNo X137.here hx rfl (hb hby at_179) rfl ?_
        refine XS.aload X137.here hx rfl (hb hby at_182) rfl rfl ?_
        exact kt
      obtain ⟨cq138, kq138, q138a, q138b, q138c⟩ := isOf hZ e137 q112
      obtain ⟨_, _, ⟨T138, L138, k138, n138⟩, -, X138, ⟨Lc138, hQ138, l138, y138, z138⟩, st138⟩ := X137.virtualBack hx (y := (⟨"com/example/graphweave/graphweave/jsonld/ActiveContext", "processed", "()Lcom/example/graphweave/graphweave/jsonld/ActiveContext;"⟩ : MethodName)) (z := (⟨"com/example/graphweave/graphweave/jsonld/ActiveContext", "processed", "()Lcom/example/graphweave/graphweave/jsonld/ActiveContext;"⟩ : MethodName)) hown (mvT hZ (hw _ tw75)) (mvT hZ (hw _ tw76)) (notFace_of_selects (args := #[]) (mvT hZ (hw _ tw78))) (mvT hZ (hw _ tw78)) (mvT hZ (hw _ tw77)) (by decide) (backOf (W := 0) (rm10 l Z a0 hw [] b110 T109.heap n0 (Nat.le_trans Z0 K125.1) O126  q117) hZ (hw _ tw79) (hw _ tw31) (by decide) (by decide)) q138a q138c (g := (mkF m 184 #[.val (.int p0), .val (.int p1), .val (.int p2), .val (.int p3), .val (.int p4), .val (.int 0), .val (.int 1), .val (.int (((p3.toUInt32 >>> ((2 : Int32) &&& 31).toUInt32).toInt32) &&& (3 : Int32))), .val (.ref b82), .val (.ref w1), .val (.ref b91), .val (.ref b110)] [(.ref b110)])) rfl (by rw [hml]; rfl) (Steps.refl _) (argsL := []) (rest := []) (lenOf pd19 rfl) rfl (by show 2 * 0 + _ ≤ _; exact Nat.le_of_eq rfl) (hb hby at_184) (fun _ _ => ⟨rfl, e137, (by decide : 9 + 0 ≤ _), (by decide : 27 + 0 ≤ _)⟩)
      dsimp only [Pt.U, Pt.locs, Pt.cells, Pt.slots] at X138 l138 y138 z138 st138 hQ138
      subst l138 y138 z138
      obtain ⟨rfl, Nq138, eq138⟩ := hQ138
      have N138 := Fr.app N133 Nq138
      refine GoW.by st138 ?_
      show GoW _ _ _ _ _ _ _ (T138.setTop (mkF m 187 _ [(.ref b110)]))
      refine GoW.st (t' := T138.setTop (mkF m 196 #[.val (.int p0), .val (.int p1), .val (.int p2), .val (.int p3), .val (.int p4), .val (.int 0), .val (.int 1), .val (.int (((p3.toUInt32 >>> ((2 : Int32) &&& 31).toUInt32).toInt32) &&& (3 : Int32))), .val (.ref b82), .val (.ref w1), .val (.ref b91), .val (.ref b110)] [(.ref b91), (.ref b110)])) (fun target kt => ?_) ?_
      · refine XS.aload X138.here hx rfl (hb hby at_187) rfl rfl ?_
        refine Jvm.RoadKit.acmp (g := (mkF m 189 #[.val (.int p0), .val (.int p1), .val (.int p2), .val (.int p3), .val (.int p4), .val (.int 0), .val (.int 1), .val (.int (((p3.toUInt32 >>> ((2 : Int32) &&& 31).toUInt32).toInt32) &&& (3 : Int32))), .val (.ref b82), .val (.ref w1), .val (.ref b91), .val (.ref b110)] [(.ref b110), (.ref b110)])) X138 hx rfl rfl rfl (pc0 := 189) (pc' := 192) (same := true) rfl (hb hby at_189) rfl (decide_eq_true rfl) (by decide) (by decide) ?_
        refine XS.aload X138.here hx rfl (hb hby at_192) rfl rfl ?_
        refine XS.aload X138.here hx rfl (hb hby at_194) rfl rfl ?_
        exact kt
      have c139 := q97.keep Kq109
      have c140 := q98.keep Kq109 nin0
      have c141 := q99.keep Kq109 nin0
      have c142 := q100.keep Kq109 nin0
      have c143 := q101.keep Kq109 nin0
      have c144 := q102.keep Kq109 nin0
      obtain ⟨cq145, kq145, q145a, q145b, q145c⟩ := isOf hZ eq138 q112
      obtain ⟨_, _, ⟨T145, L145, k145, n145⟩, -, X145, ⟨Lc145, hQ145, l145, y145, z145⟩, st145⟩ := X138.virtualBack hx (y := (⟨"com/example/graphweave/graphweave/jsonld/ActiveContext", "term", "(Ljava/lang/String;)Lcom/example/graphweave/graphweave/jsonld/TermDefinition;"⟩ : MethodName)) (z := (⟨"com/example/graphweave/graphweave/jsonld/ActiveContext", "term", "(Ljava/lang/String;)Lcom/example/graphweave/graphweave/jsonld/TermDefinition;"⟩ : MethodName)) hown (mvT hZ (hw _ tw80)) (mvT hZ (hw _ tw81)) (notFace_of_selects (args := #[]) (mvT hZ (hw _ tw83))) (mvT hZ (hw _ tw83)) (mvT hZ (hw _ tw82)) (by decide) (backOf (W := 0) (rm11_r l Z a0 hw [] b110 b91 wcs wt wr b92 k93 i94 T109.heap n0 (Nat.le_trans Z0 K125.1) O126 S_CS hcs E_wt F_wt E_wr F_wr g104 q116 c139 c140 c141 c142 c143 c144) hZ (hw _ tw84) (hw _ tw31) (by decide) (by decide)) q145a q145c (g := (mkF m 196 #[.val (.int p0), .val (.int p1), .val (.int p2), .val (.int p3), .val (.int p4), .val (.int 0), .val (.int 1), .val (.int (((p3.toUInt32 >>> ((2 : Int32) &&& 31).toUInt32).toInt32) &&& (3 : Int32))), .val (.ref b82), .val (.ref w1), .val (.ref b91), .val (.ref b110)] [(.ref b91), (.ref b110)])) rfl (by rw [hml]; rfl) (Steps.refl _) (argsL := [(.ref b91)]) (rest := []) (lenOf pd15 rfl) rfl (by show 2 * 0 + _ ≤ _; exact Nat.le_of_eq rfl) (hb hby at_196) (fun _ _ => ⟨rfl, eq138, (by decide : 9 + 0 ≤ _), (by decide : 27 + 0 ≤ _)⟩)
      dsimp only [Pt.U, Pt.locs, Pt.cells, Pt.slots] at X145 l145 y145 z145 st145 hQ145
      subst l145 y145 z145
      obtain ⟨rfl, Nq145, Kq145⟩ := hQ145
      have N145 := Fr.app N138 Nq145
      have K146 := K125.trans Kq145 (allS (Or.inr sz103) all0)
      have O147 := O126.keep Kq145 (allS g104 all0)
      refine GoW.by st145 ?_
      show GoW _ _ _ _ _ _ _ (T145.setTop (mkF m 199 _ [.null]))
      refine GoW.st (t' := T145.setTop (mkF m 205 #[.val (.int p0), .val (.int p1), .val (.int p2), .val (.int p3), .val (.int p4), .val (.int 0), .val (.int 1), .val (.int (((p3.toUInt32 >>> ((2 : Int32) &&& 31).toUInt32).toInt32) &&& (3 : Int32))), .val (.ref b82), .val (.ref w1), .val (.ref b91), .val (.ref b110)] [.null, (.ref b110)])) (fun target kt => ?_) ?_
      · refine XS.ifnonnullNo X145.here hx rfl (hb hby at_199) rfl ?_
        refine XS.aload X145.here hx rfl (hb hby at_202) rfl rfl ?_
        refine XS.aconstNull X145.here hx rfl (hb hby at_204) ?_
        exact kt
      have c149 := q112.keep Kq145
      obtain ⟨cq148, kq148, q148a, q148b, q148c⟩ := isOf hZ rfl c149
      obtain ⟨_, _, ⟨T148, L148, k148, n148⟩, -, X148, ⟨Lc148, hQ148, l148, y148, z148⟩, st148⟩ := X145.virtualBack hx (y := (⟨"com/example/graphweave/graphweave/jsonld/ActiveContext", "term", "(Ljava/lang/String;)Lcom/example/graphweave/graphweave/jsonld/TermDefinition;"⟩ : MethodName)) (z := (⟨"com/example/graphweave/graphweave/jsonld/ActiveContext", "term", "(Ljava/lang/String;)Lcom/example/graphweave/graphweave/jsonld/TermDefinition;"⟩ : MethodName)) hown (mvT hZ (hw _ tw80)) (mvT hZ (hw _ tw81)) (notFace_of_selects (args := #[]) (mvT hZ (hw _ tw83))) (mvT hZ (hw _ tw83)) (mvT hZ (hw _ tw82)) (by decide) (backOf (W := 0) (rm11_n l Z a0 hw [] b110 T145.heap n0 (Nat.le_trans Z0 K146.1) O147  ) hZ (hw _ tw84) (hw _ tw31) (by decide) (by decide)) q148a q148c (g := (mkF m 205 #[.val (.int p0), .val (.int p1), .val (.int p2), .val (.int p3), .val (.int p4), .val (.int 0), .val (.int 1), .val (.int (((p3.toUInt32 >>> ((2 : Int32) &&& 31).toUInt32).toInt32) &&& (3 : Int32))), .val (.ref b82), .val (.ref w1), .val (.ref b91), .val (.ref b110)] [.null, (.ref b110)])) rfl (by rw [hml]; rfl) (Steps.refl _) (argsL := [.null]) (rest := []) (lenOf pd15 rfl) rfl (by show 2 * 0 + _ ≤ _; exact Nat.le_of_eq rfl) (hb hby at_205) (fun _ _ => ⟨rfl, rfl, (by decide : 9 + 0 ≤ _), (by decide : 27 + 0 ≤ _)⟩)
      dsimp only [Pt.U, Pt.locs, Pt.cells, Pt.slots] at X148 l148 y148 z148 st148 hQ148
      subst l148 y148 z148
      obtain ⟨rfl, Nq148, eq148⟩ := hQ148
      have N148 := Fr.app N145 Nq148
      refine GoW.by st148 ?_
      show GoW _ _ _ _ _ _ _ (T148.setTop (mkF m 208 _ [.null]))
      refine GoW.st (t' := T148.setTop (mkF m 216 #[.val (.int p0), .val (.int p1), .val (.int p2), .val (.int p3), .val (.int p4), .val (.int 0), .val (.int 1), .val (.int (((p3.toUInt32 >>> ((2 : Int32) &&& 31).toUInt32).toInt32) &&& (3 : Int32))), .val (.ref b82), .val (.ref w1), .val (.ref b91), .val (.ref b110)] [(.int 1)])) (fun target kt => ?_) ?_
      · refine XS.ifnonnullNo X148.here hx rfl (hb hby at_208) rfl ?_
        refine XS.iconst X148.here hx rfl (hb hby at_211) ?_
        refine XS.goto X148.here hx rfl (pc0 := 212) (pc' := 216) rfl (hb hby at_212) (by decide) (by decide) ?_
        exact kt
      refine GoW.ret X148 hSi (by rw [eq148]; exact (Nat.le_trans (Nat.le_refl _) (Nat.le_trans (Nat.le_trans Kq90.1 Kq109.1) Kq145.1))) (v := some (.int 1)) (fun h => by rw [hret] at h; cases h) hlk (fun fs hr => retN X148 hx (t := .boolean) hret (by simp) (hb hby at_216) hr) ?_ (by decide) (by decide)
      show Q0 Z p0 p1 p2 p3 p4 w0 w1 wt wr wcs h0 n0 _ T148.heap _
      rw [eq148]
      exact ⟨rfl, N148, K146⟩
  · refine GoW.st (t' := s₁.setTop (mkF m 16 #[.val (.int p0), .val (.int p1), .val (.int p2), .val (.int p3), .val (.int p4), .val (.int 1), .unset, .unset, .unset, .unset, .unset, .unset] [(.int (p3 &&& (2 : Int32)))])) (fun target kt => ?_) ?_
    · refine XS.ifNo X0.here hx rfl (hb hby at_3) rfl ((if0 _ _).trans (feq hc10).1) ?_
      refine XS.iconst X0.here hx rfl (hb hby at_6) ?_
      refine XS.goto X0.here hx rfl (pc0 := 7) (pc' := 11) rfl (hb hby at_7) (by decide) (by decide) ?_
      refine XS.istore X0.here hx rfl (hb hby at_11) rfl (l' := #[.val (.int p0), .val (.int p1), .val (.int p2), .val (.int p3), .val (.int p4), .val (.int 1), .unset, .unset, .unset, .unset, .unset, .unset]) rfl ?_
      refine XS.iloadN X0.here hx rfl (hb hby at_13) rfl ?_
      refine XS.iconst X0.here hx rfl (hb hby at_14) ?_
      refine XS.iand X0.here hx rfl (hb hby at_15) rfl ?_
      exact kt
    rcases Classical.em ((p3 &&& (2 : Int32)) = (0 : Int32)) with hc150 | hc150
    · refine GoW.st (t' := s₁.setTop (mkF m 63 #[.val (.int p0), .val (.int p1), .val (.int p2), .val (.int p3), .val (.int p4), .val (.int 1), .val (.int 0), .val (.int (((p3.toUInt32 >>> ((2 : Int32) &&& 31).toUInt32).toInt32) &&& (3 : Int32))), .val .null, .unset, .unset, .unset] [])) (fun target kt => ?_) ?_
      · refine XS.ifYes X0.here hx rfl (pc0 := 16) (pc' := 23) rfl (hb hby at_16) rfl ((if0 _ _).trans (teq hc150).1) (by decide) (by decide) ?_
        refine XS.iconst X0.here hx rfl (hb hby at_23) ?_
        refine XS.istore X0.here hx rfl (hb hby at_24) rfl (l' := #[.val (.int p0), .val (.int p1), .val (.int p2), .val (.int p3), .val (.int p4), .val (.int 1), .val (.int 0), .unset, .unset, .unset, .unset, .unset]) rfl ?_
        refine XS.iloadN X0.here hx rfl (hb hby at_26) rfl ?_
        refine XS.iconst X0.here hx rfl (hb hby at_27) ?_
        refine XS.iushr X0.here hx rfl (hb hby at_28) rfl ?_
        refine XS.iconst X0.here hx rfl (hb hby at_29) ?_
        refine XS.iand X0.here hx rfl (hb hby at_30) rfl ?_
        refine XS.istore X0.here hx rfl (hb hby at_31) rfl (l' := #[.val (.int p0), .val (.int p1), .val (.int p2), .val (.int p3), .val (.int p4), .val (.int 1), .val (.int 0), .val (.int (((p3.toUInt32 >>> ((2 : Int32) &&& 31).toUInt32).toInt32) &&& (3 : Int32))), .unset, .unset, .unset, .unset]) rfl ?_
        refine XS.iload X0.here hx rfl (hb hby at_33) rfl ?_
        refine XS.ifNo X0.here hx rfl (hb hby at_35) rfl ((if0 _ _).trans (feq (by decide : ¬ ((1 : Int32) = (0 : Int32)))).1) ?_
        refine XS.aconstNull X0.here hx rfl (hb hby at_38) ?_
        refine XS.goto X0.here hx rfl (pc0 := 39) (pc' := 50) rfl (hb hby at_39) (by decide) (by decide) ?_
        refine XS.astore X0.here hx rfl (hb hby at_50) rfl rfl (l' := #[.val (.int p0), .val (.int p1), .val (.int p2), .val (.int p3), .val (.int p4), .val (.int 1), .val (.int 0), .val (.int (((p3.toUInt32 >>> ((2 : Int32) &&& 31).toUInt32).toInt32) &&& (3 : Int32))), .val .null, .unset, .unset, .unset]) rfl ?_
        refine XS.iload X0.here hx rfl (hb hby at_52) rfl ?_
        refine XS.ifYes X0.here hx rfl (pc0 := 54) (pc' := 63) rfl (hb hby at_54) rfl ((if0 _ _).trans (teq (by decide : (0 : Int32) = (0 : Int32))).1) (by decide) (by decide) ?_
        exact kt
      obtain ⟨T151, X151, e151, st151⟩ := getS2 X0 hx hZ hown (host := "") (Or.inl (hw _ tw0)) Via.refl e0 (S_10.ext O0.2) (g := (mkF m 63 #[.val (.int p0), .val (.int p1), .val (.int p2), .val (.int p3), .val (.int p4), .val (.int 1), .val (.int 0), .val (.int (((p3.toUInt32 >>> ((2 : Int32) &&& 31).toUInt32).toInt32) &&& (3 : Int32))), .val .null, .unset, .unset, .unset] [])) rfl (hb hby at_63)
      refine GoW.st st151 ?_
      show GoW _ _ _ _ _ _ _ (T151.setTop (mkF m 66 _ [(.ref w0)]))
      refine GoW.st (t' := T151.setTop (mkF m 75 #[.val (.int p0), .val (.int p1), .val (.int p2), .val (.int p3), .val (.int p4), .val (.int 1), .val (.int 0), .val (.int (((p3.toUInt32 >>> ((2 : Int32) &&& 31).toUInt32).toInt32) &&& (3 : Int32))), .val .null, .val (.ref w0), .unset, .unset] [(.int ((p4 &&& (255 : Int32)).toUInt32.toUInt16.toUInt32.toInt32))])) (fun target kt => ?_) ?_
      · refine XS.astore X151.here hx rfl (hb hby at_66) rfl rfl (l' := #[.val (.int p0), .val (.int p1), .val (.int p2), .val (.int p3), .val (.int p4), .val (.int 1), .val (.int 0), .val (.int (((p3.toUInt32 >>> ((2 : Int32) &&& 31).toUInt32).toInt32) &&& (3 : Int32))), .val .null, .val (.ref w0), .unset, .unset]) rfl ?_
        refine XS.iload X151.here hx rfl (hb hby at_68) rfl ?_
        refine XS.sipush X151.here hx rfl (hb hby at_70) ?_
        refine XS.iand X151.here hx rfl (hb hby at_73) rfl ?_
        refine XS.i2c X151.here hx rfl (hb hby at_74) rfl ?_
        exact kt
      obtain ⟨_, _, ⟨T152, L152, k152, n152⟩, -, X152, ⟨Lc152, hQ152, l152, y152, z152⟩, st152⟩ := Jvm.LawKit.callS X151 hx (y := (⟨"java/lang/String", "valueOf", "(C)Ljava/lang/String;"⟩ : MethodName)) hown (mvT hZ (hw _ tw3)) (mvT hZ (hw _ tw4)) (mvT hZ (hw _ tw5)) (mvT hZ (hw _ tw6)) (by decide) (backOf (W := 0) (rm1 l Z a0 hw [] ((p4 &&& (255 : Int32)).toUInt32.toUInt16.toUInt32.toInt32) wcs h0 n0 (Nat.le_trans Z0 K0.1) O0 S_CS hcs (own_c255 p4)) hZ (hw _ tw6) (hw _ tw5) (by decide) (by decide)) (g := (mkF m 75 #[.val (.int p0), .val (.int p1), .val (.int p2), .val (.int p3), .val (.int p4), .val (.int 1), .val (.int 0), .val (.int (((p3.toUInt32 >>> ((2 : Int32) &&& 31).toUInt32).toInt32) &&& (3 : Int32))), .val .null, .val (.ref w0), .unset, .unset] [(.int ((p4 &&& (255 : Int32)).toUInt32.toUInt16.toUInt32.toInt32))])) rfl (by rw [hml]; rfl) (argsL := [(.int ((p4 &&& (255 : Int32)).toUInt32.toUInt16.toUInt32.toInt32))]) (rest := []) (lenOf pd8 rfl) rfl (by show 2 * 0 + _ ≤ _; exact Nat.le_of_eq rfl) (hb hby at_75) (fun _ _ => ⟨rfl, e151, (by decide : 0 + 2 ≤ _), (by decide : 0 + 5 ≤ _)⟩)
      dsimp only [Pt.U, Pt.locs, Pt.cells, Pt.slots] at X152 l152 y152 z152 st152 hQ152
      subst l152 y152 z152
      obtain ⟨b153, b154, k155, i156, rfl, Nq152, Kq152, q157, q158, q159, q160, q161, q162, q163, q164⟩ := hQ152
      have N152 := Fr.app N0 Nq152
      have sz165 : h0.size ≤ b153 := Nat.le_trans K0.1 q157
      have g166 : n0 ≤ b153 := Nat.le_trans Z0 sz165
      have sz167 : h0.size ≤ b154 := Nat.le_trans K0.1 q158
      have g168 : n0 ≤ b154 := Nat.le_trans Z0 sz167
      have K169 := K0.trans Kq152 all0
      have O170 := O0.keep Kq152 all0
      refine GoW.st st152 ?_
      show GoW _ _ _ _ _ _ _ (T152.setTop (mkF m 78 _ [(.ref b153)]))
      refine GoW.st (t' := T152.setTop (mkF m 84 #[.val (.int p0), .val (.int p1), .val (.int p2), .val (.int p3), .val (.int p4), .val (.int 1), .val (.int 0), .val (.int (((p3.toUInt32 >>> ((2 : Int32) &&& 31).toUInt32).toInt32) &&& (3 : Int32))), .val .null, .val (.ref w0), .val (.ref b153), .unset] [(.ref w0), .null])) (fun target kt => ?_) ?_
      · refine XS.astore X152.here hx rfl (hb hby at_78) rfl rfl (l' := #[.val (.int p0), .val (.int p1), .val (.int p2), .val (.int p3), .val (.int p4), .val (.int 1), .val (.int 0), .val (.int (((p3.toUInt32 >>> ((2 : Int32) &&& 31).toUInt32).toInt32) &&& (3 : Int32))), .val .null, .val (.ref w0), .val (.ref b153), .unset]) rfl ?_
        refine XS.aload X152.here hx rfl (hb hby at_80) rfl rfl ?_
        refine XS.aload X152.here hx rfl (hb hby at_82) rfl rfl ?_
        exact kt
      obtain ⟨_, _, ⟨T171, L171, k171, n171⟩, -, X171, ⟨Lc171, hQ171, l171, y171, z171⟩, st171⟩ := Jvm.LawKit.callS X152 hx (y := (⟨"com/example/graphweave/graphweave/jsonld/ActiveContext", "initial", "(Ljava/lang/String;Lcom/example/graphweave/graphweave/jsonld/ProcessingMode;)Lcom/example/graphweave/graphweave/jsonld/ActiveContext;"⟩ : MethodName)) hown (mvT hZ (hw _ tw29)) (mvT hZ (hw _ tw30)) (mvT hZ (hw _ tw31)) (mvT hZ (hw _ tw32)) (by decide) (backOf (W := 0) (rm6_n l Z a0 hw [] w0 wt wr T152.heap n0 (Nat.le_trans Z0 K169.1) O170 S_EM ) hZ (hw _ tw32) (hw _ tw31) (by decide) (by decide)) (g := (mkF m 84 #[.val (.int p0), .val (.int p1), .val (.int p2), .val (.int p3), .val (.int p4), .val (.int 1), .val (.int 0), .val (.int (((p3.toUInt32 >>> ((2 : Int32) &&& 31).toUInt32).toInt32) &&& (3 : Int32))), .val .null, .val (.ref w0), .val (.ref b153), .unset] [(.ref w0), .null])) rfl (by rw [hml]; rfl) (argsL := [.null, (.ref w0)]) (rest := []) (lenOf pd17 rfl) rfl (by show 2 * 0 + _ ≤ _; exact Nat.le_of_eq rfl) (hb hby at_84) (fun _ _ => ⟨rfl, rfl, (by decide : 2 + 1 ≤ _), (by decide : 5 + 10 ≤ _)⟩)
      dsimp only [Pt.U, Pt.locs, Pt.cells, Pt.slots] at X171 l171 y171 z171 st171 hQ171
      subst l171 y171 z171
      obtain ⟨b172, rfl, Nq171, Kq171, q173, q174, q175, q176, q177, q178, q179, q180, q181, q182, q183, q184⟩ := hQ171
      have N171 := Fr.app N152 Nq171
      have sz185 : h0.size ≤ b172 := Nat.le_trans K169.1 q173
      have g186 : n0 ≤ b172 := Nat.le_trans Z0 sz185
      have K187 := K169.trans Kq171 all0
      have O188 := O170.keep Kq171 all0
      refine GoW.st st171 ?_
      show GoW _ _ _ _ _ _ _ (T171.setTop (mkF m 87 _ [(.ref b172)]))
      refine GoW.st (t' := T171.setTop (mkF m 98 #[.val (.int p0), .val (.int p1), .val (.int p2), .val (.int p3), .val (.int p4), .val (.int 1), .val (.int 0), .val (.int (((p3.toUInt32 >>> ((2 : Int32) &&& 31).toUInt32).toInt32) &&& (3 : Int32))), .val .null, .val (.ref w0), .val (.ref b153), .val (.ref b172)] [(.ref b172)])) (fun target kt => ?_) ?_
      · refine XS.astore X171.here hx rfl (hb hby at_87) rfl rfl (l' := #[.val (.int p0), .val (.int p1), .val (.int p2), .val (.int p3), .val (.int p4), .val (.int 1), .val (.int 0), .val (.int (((p3.toUInt32 >>> ((2 : Int32) &&& 31).toUInt32).toInt32) &&& (3 : Int32))), .val .null, .val (.ref w0), .val (.ref b153), .val (.ref b172)]) rfl ?_
        refine XS.aload X171.here hx rfl (hb hby at_89) rfl rfl ?_
        refine XS.ifnonnullYes X171.here hx rfl (pc0 := 91) (pc' := 96) rfl (hb hby at_91) rfl (by decide) (by decide) ?_
        refine XS.aload X171.here hx rfl (hb hby at_96) rfl rfl ?_
        exact kt
      obtain ⟨T189, X189, e189, st189⟩ := getF X171 hx hZ hown (host := "") (Or.inl (hw _ tw54)) Via.refl rfl q175 (g := (mkF m 98 #[.val (.int p0), .val (.int p1), .val (.int p2), .val (.int p3), .val (.int p4), .val (.int 1), .val (.int 0), .val (.int (((p3.toUInt32 >>> ((2 : Int32) &&& 31).toUInt32).toInt32) &&& (3 : Int32))), .val .null, .val (.ref w0), .val (.ref b153), .val (.ref b172)] [(.ref b172)])) rfl rfl (hb hby at_98)
      refine GoW.st st189 ?_
      show GoW _ _ _ _ _ _ _ (T189.setTop (mkF m 101 _ [.null]))
      refine GoW.st (t' := T189.setTop (mkF m 103 #[.val (.int p0), .val (.int p1), .val (.int p2), .val (.int p3), .val (.int p4), .val (.int 1), .val (.int 0), .val (.int (((p3.toUInt32 >>> ((2 : Int32) &&& 31).toUInt32).toInt32) &&& (3 : Int32))), .val .null, .val (.ref w0), .val (.ref b153), .val (.ref b172)] [.null, .null])) (fun target kt => ?_) ?_
      · refine XS.aload X189.here hx rfl (hb hby at_101) rfl rfl ?_
        exact kt
      obtain ⟨_, _, ⟨T190, L190, k190, n190⟩, -, X190, ⟨Lc190, hQ190, l190, y190, z190⟩, st190⟩ := Jvm.LawKit.callS X189 hx (y := (⟨"com/example/graphweave/graphweave/jsonld/ActiveContextInitialPinLaw", "same", "(Ljava/lang/String;Ljava/lang/String;)Z"⟩ : MethodName)) hown (mvT hZ (hw _ tw55)) (mvT hZ (hw _ tw56)) (mvT hZ (hw _ tw57)) (mvT hZ (hw _ tw58)) (by decide) (backOf (W := 0) (rm8_n l Z a0 hw []  T171.heap n0 (Nat.le_trans Z0 K187.1) O188  ) hZ (hw _ tw58) (hw _ tw57) (by decide) (by decide)) (g := (mkF m 103 #[.val (.int p0), .val (.int p1), .val (.int p2), .val (.int p3), .val (.int p4), .val (.int 1), .val (.int 0), .val (.int (((p3.toUInt32 >>> ((2 : Int32) &&& 31).toUInt32).toInt32) &&& (3 : Int32))), .val .null, .val (.ref w0), .val (.ref b153), .val (.ref b172)] [.null, .null])) rfl (by rw [hml]; rfl) (argsL := [.null, .null]) (rest := []) (lenOf pd18 rfl) rfl (by show 2 * 0 + _ ≤ _; exact Nat.le_of_eq rfl) (hb hby at_103) (fun _ _ => ⟨rfl, e189, (by decide : 3 + 0 ≤ _), (by decide : 15 + 0 ≤ _)⟩)
      dsimp only [Pt.U, Pt.locs, Pt.cells, Pt.slots] at X190 l190 y190 z190 st190 hQ190
      subst l190 y190 z190
      obtain ⟨rfl, Nq190, eq190⟩ := hQ190
      have N190 := Fr.app N171 Nq190
      refine GoW.st st190 ?_
      show GoW _ _ _ _ _ _ _ (T190.setTop (mkF m 106 _ [(.int 1)]))
      refine GoW.st (t' := T190.setTop (mkF m 111 #[.val (.int p0), .val (.int p1), .val (.int p2), .val (.int p3), .val (.int p4), .val (.int 1), .val (.int 0), .val (.int (((p3.toUInt32 >>> ((2 : Int32) &&& 31).toUInt32).toInt32) &&& (3 : Int32))), .val .null, .val (.ref w0), .val (.ref b153), .val (.ref b172)] [(.ref b172)])) (fun target kt => ?_) ?_
      · refine XS.ifNo X190.here hx rfl (hb hby at_106) rfl ((if0 _ _).trans (feq (by decide : ¬ ((1 : Int32) = (0 : Int32)))).1) ?_
        refine XS.aload X190.here hx rfl (hb hby at_109) rfl rfl ?_
        exact kt
      obtain ⟨T191, X191, e191, st191⟩ := getF X190 hx hZ hown (host := "") (Or.inl (hw _ tw59)) Via.refl eq190 q177 (g := (mkF m 111 #[.val (.int p0), .val (.int p1), .val (.int p2), .val (.int p3), .val (.int p4), .val (.int 1), .val (.int 0), .val (.int (((p3.toUInt32 >>> ((2 : Int32) &&& 31).toUInt32).toInt32) &&& (3 : Int32))), .val .null, .val (.ref w0), .val (.ref b153), .val (.ref b172)] [(.ref b172)])) rfl rfl (hb hby at_111)
      refine GoW.st st191 ?_
      show GoW _ _ _ _ _ _ _ (T191.setTop (mkF m 114 _ [.null]))
      refine GoW.st (t' := T191.setTop (mkF m 116 #[.val (.int p0), .val (.int p1), .val (.int p2), .val (.int p3), .val (.int p4), .val (.int 1), .val (.int 0), .val (.int (((p3.toUInt32 >>> ((2 : Int32) &&& 31).toUInt32).toInt32) &&& (3 : Int32))), .val .null, .val (.ref w0), .val (.ref b153), .val (.ref b172)] [.null, .null])) (fun target kt => ?_) ?_
      · refine XS.aload X191.here hx rfl (hb hby at_114) rfl rfl ?_
        exact kt
      obtain ⟨_, _, ⟨T192, L192, k192, n192⟩, -, X192, ⟨Lc192, hQ192, l192, y192, z192⟩, st192⟩ := Jvm.LawKit.callS X191 hx (y := (⟨"com/example/graphweave/graphweave/jsonld/ActiveContextInitialPinLaw", "same", "(Ljava/lang/String;Ljava/lang/String;)Z"⟩ : MethodName)) hown (mvT hZ (hw _ tw55)) (mvT hZ (hw _ tw56)) (mvT hZ (hw _ tw57)) (mvT hZ (hw _ tw58)) (by decide) (backOf (W := 0) (rm8_n l Z a0 hw []  T171.heap n0 (Nat.le_trans Z0 K187.1) O188  ) hZ (hw _ tw58) (hw _ tw57) (by decide) (by decide)) (g := (mkF m 116 #[.val (.int p0), .val (.int p1), .val (.int p2), .val (.int p3), .val (.int p4), .val (.int 1), .val (.int 0), .val (.int (((p3.toUInt32 >>> ((2 : Int32) &&& 31).toUInt32).toInt32) &&& (3 : Int32))), .val .null, .val (.ref w0), .val (.ref b153), .val (.ref b172)] [.null, .null])) rfl (by rw [hml]; rfl) (argsL := [.null, .null]) (rest := []) (lenOf pd18 rfl) rfl (by show 2 * 0 + _ ≤ _; exact Nat.le_of_eq rfl) (hb hby at_116) (fun _ _ => ⟨rfl, e191, (by decide : 3 + 0 ≤ _), (by decide : 15 + 0 ≤ _)⟩)
      dsimp only [Pt.U, Pt.locs, Pt.cells, Pt.slots] at X192 l192 y192 z192 st192 hQ192
      subst l192 y192 z192
      obtain ⟨rfl, Nq192, eq192⟩ := hQ192
      have N192 := Fr.app N190 Nq192
      refine GoW.st st192 ?_
      show GoW _ _ _ _ _ _ _ (T192.setTop (mkF m 119 _ [(.int 1)]))
      refine GoW.st (t' := T192.setTop (mkF m 124 #[.val (.int p0), .val (.int p1), .val (.int p2), .val (.int p3), .val (.int p4), .val (.int 1), .val (.int 0), .val (.int (((p3.toUInt32 >>> ((2 : Int32) &&& 31).toUInt32).toInt32) &&& (3 : Int32))), .val .null, .val (.ref w0), .val (.ref b153), .val (.ref b172)] [(.ref b172)])) (fun target kt => ?_) ?_
      · refine XS.ifNo X192.here hx rfl (hb hby at_119) rfl ((if0 _ _).trans (feq (by decide : ¬ ((1 : Int32) = (0 : Int32)))).1) ?_
        refine XS.aload X192.here hx rfl (hb hby at_122) rfl rfl ?_
        exact kt
      obtain ⟨T193, X193, e193, st193⟩ := getF X192 hx hZ hown (host := "") (Or.inl (hw _ tw60)) Via.refl eq192 q176 (g := (mkF m 124 #[.val (.int p0), .val (.int p1), .val (.int p2), .val (.int p3), .val (.int p4), .val (.int 1), .val (.int 0), .val (.int (((p3.toUInt32 >>> ((2 : Int32) &&& 31).toUInt32).toInt32) &&& (3 : Int32))), .val .null, .val (.ref w0), .val (.ref b153), .val (.ref b172)] [(.ref b172)])) rfl rfl (hb hby at_124)
      refine GoW.st st193 ?_
      show GoW _ _ _ _ _ _ _ (T193.setTop (mkF m 127 _ [(.ref w0)]))
      refine GoW.st (t' := T193.setTop (mkF m 134 #[.val (.int p0), .val (.int p1), .val (.int p2), .val (.int p3), .val (.int p4), .val (.int 1), .val (.int 0), .val (.int (((p3.toUInt32 >>> ((2 : Int32) &&& 31).toUInt32).toInt32) &&& (3 : Int32))), .val .null, .val (.ref w0), .val (.ref b153), .val (.ref b172)] [(.ref b172)])) (fun target kt => ?_) ?_
      · refine XS.aload X193.here hx rfl (hb hby at_127) rfl rfl ?_
        refine Jvm.RoadKit.acmp (g := (mkF m 129 #[.val (.int p0), .val (.int p1), .val (.int p2), .val (.int p3), .val (.int p4), .val (.int 1), .val (.int 0), .val (.int (((p3.toUInt32 >>> ((2 : Int32) &&& 31).toUInt32).toInt32) &&& (3 : Int32))), .val .null, .val (.ref w0), .val (.ref b153), .val (.ref b172)] [(.ref w0), (.ref w0)])) X193 hx rfl rfl rfl (pc0 := 129) (pc' := 132) (same := true) rfl (hb hby at_129) rfl (decide_eq_true rfl) (by decide) (by decide) ?_
        refine XS.aload X193.here hx rfl (hb hby at_132) rfl rfl ?_
        exact kt
      obtain ⟨cq194, kq194, q194a, q194b, q194c⟩ := isOf hZ e193 q174
      obtain ⟨_, _, ⟨T194, L194, k194, n194⟩, -, X194, ⟨Lc194, hQ194, l194, y194, z194⟩, st194⟩ := X193.virtualBack hx (y := (⟨"com/example/graphweave/graphweave/jsonld/ActiveContext", "isJsonLd10", "()Z"⟩ : MethodName)) (z := (⟨"com/example/graphweave/graphweave/jsonld/ActiveContext", "isJsonLd10", "()Z"⟩ : MethodName)) hown (mvT hZ (hw _ tw61)) (mvT hZ (hw _ tw62)) (notFace_of_selects (args := #[]) (mvT hZ (hw _ tw64))) (mvT hZ (hw _ tw64)) (mvT hZ (hw _ tw63)) (by decide) (backOf (W := 0) (rm9_0 l Z a0 hw [] b172 w0 w1 T171.heap n0 (Nat.le_trans Z0 K187.1) O188 S_10 q176) hZ (hw _ tw65) (hw _ tw31) (by decide) (by decide)) q194a q194c (g := (mkF m 134 #[.val (.int p0), .val (.int p1), .val (.int p2), .val (.int p3), .val (.int p4), .val (.int 1), .val (.int 0), .val (.int (((p3.toUInt32 >>> ((2 : Int32) &&& 31).toUInt32).toInt32) &&& (3 : Int32))), .val .null, .val (.ref w0), .val (.ref b153), .val (.ref b172)] [(.ref b172)])) rfl (by rw [hml]; rfl) (Steps.refl _) (argsL := []) (rest := []) (lenOf pd11 rfl) rfl (by show 2 * 0 + _ ≤ _; exact Nat.le_of_eq rfl) (hb hby at_134) (fun _ _ => ⟨rfl, e193, (by decide : 3 + 0 ≤ _), (by decide : 15 + 0 ≤ _)⟩)
      dsimp only [Pt.U, Pt.locs, Pt.cells, Pt.slots] at X194 l194 y194 z194 st194 hQ194
      subst l194 y194 z194
      obtain ⟨rfl, Nq194, eq194⟩ := hQ194
      have N194 := Fr.app N192 Nq194
      refine GoW.by st194 ?_
      show GoW _ _ _ _ _ _ _ (T194.setTop (mkF m 137 _ [(.int 1)]))
      refine GoW.st (t' := T194.setTop (mkF m 152 #[.val (.int p0), .val (.int p1), .val (.int p2), .val (.int p3), .val (.int p4), .val (.int 1), .val (.int 0), .val (.int (((p3.toUInt32 >>> ((2 : Int32) &&& 31).toUInt32).toInt32) &&& (3 : Int32))), .val .null, .val (.ref w0), .val (.ref b153), .val (.ref b172)] [(.ref b172)])) (fun target kt => ?_) ?_
      · refine XS.iload X194.here hx rfl (hb hby at_137) rfl ?_
        refine XS.ifNo X194.here hx rfl (hb hby at_139) rfl ((if0 _ _).trans (teq (by decide : (0 : Int32) = (0 : Int32))).2) ?_
        refine XS.iconst X194.here hx rfl (hb hby at_142) ?_
        refine XS.goto X194.here hx rfl (pc0 := 143) (pc' := 147) rfl (hb hby at_143) (by decide) (by decide) ?_
        refine XS.icmpNo X194.here hx rfl (hb hby at_147) rfl (teq (by decide : (1 : Int32) = (1 : Int32))).2 ?_
        refine XS.aload X194.here hx rfl (hb hby at_150) rfl rfl ?_
        exact kt
      obtain ⟨T195, X195, e195, st195⟩ := getF X194 hx hZ hown (host := "") (Or.inl (hw _ tw67)) Via.refl eq194 q181 (g := (mkF m 152 #[.val (.int p0), .val (.int p1), .val (.int p2), .val (.int p3), .val (.int p4), .val (.int 1), .val (.int 0), .val (.int (((p3.toUInt32 >>> ((2 : Int32) &&& 31).toUInt32).toInt32) &&& (3 : Int32))), .val .null, .val (.ref w0), .val (.ref b153), .val (.ref b172)] [(.ref b172)])) rfl rfl (hb hby at_152)
      refine GoW.st st195 ?_
      show GoW _ _ _ _ _ _ _ (T195.setTop (mkF m 155 _ [.null]))
      refine GoW.st (t' := T195.setTop (mkF m 160 #[.val (.int p0), .val (.int p1), .val (.int p2), .val (.int p3), .val (.int p4), .val (.int 1), .val (.int 0), .val (.int (((p3.toUInt32 >>> ((2 : Int32) &&& 31).toUInt32).toInt32) &&& (3 : Int32))), .val .null, .val (.ref w0), .val (.ref b153), .val (.ref b172)] [(.ref b172)])) (fun target kt => ?_) ?_
      · refine XS.ifnonnullNo X195.here hx rfl (hb hby at_155) rfl ?_
        refine XS.aload X195.here hx rfl (hb hby at_158) rfl rfl ?_
        exact kt
      obtain ⟨T196, X196, e196, st196⟩ := getF X195 hx hZ hown (host := "") (Or.inl (hw _ tw69)) Via.refl e195 q182 (g := (mkF m 160 #[.val (.int p0), .val (.int p1), .val (.int p2), .val (.int p3), .val (.int p4), .val (.int 1), .val (.int 0), .val (.int (((p3.toUInt32 >>> ((2 : Int32) &&& 31).toUInt32).toInt32) &&& (3 : Int32))), .val .null, .val (.ref w0), .val (.ref b153), .val (.ref b172)] [(.ref b172)])) rfl rfl (hb hby at_160)
      refine GoW.st st196 ?_
      show GoW _ _ _ _ _ _ _ (T196.setTop (mkF m 163 _ [.null]))
      refine GoW.st (t' := T196.setTop (mkF m 168 #[.val (.int p0), .val (.int p1), .val (.int p2), .val (.int p3), .val (.int p4), .val (.int 1), .val (.int 0), .val (.int (((p3.toUInt32 >>> ((2 : Int32) &&& 31).toUInt32).toInt32) &&& (3 : Int32))), .val .null, .val (.ref w0), .val (.ref b153), .val (.ref b172)] [(.ref b172)])) (fun target kt => ?_) ?_
      · refine XS.ifnonnullNo X196.here hx rfl (hb hby at_163) rfl ?_
        refine XS.aload X196.here hx rfl (hb hby at_166) rfl rfl ?_
        exact kt
      obtain ⟨T197, X197, e197, st197⟩ := getF X196 hx hZ hown (host := "") (Or.inl (hw _ tw71)) Via.refl e196 q183 (g := (mkF m 168 #[.val (.int p0), .val (.int p1), .val (.int p2), .val (.int p3), .val (.int p4), .val (.int 1), .val (.int 0), .val (.int (((p3.toUInt32 >>> ((2 : Int32) &&& 31).toUInt32).toInt32) &&& (3 : Int32))), .val .null, .val (.ref w0), .val (.ref b153), .val (.ref b172)] [(.ref b172)])) rfl rfl (hb hby at_168)
      refine GoW.st st197 ?_
      show GoW _ _ _ _ _ _ _ (T197.setTop (mkF m 171 _ [.null]))
      refine GoW.st (t' := T197.setTop (mkF m 176 #[.val (.int p0), .val (.int p1), .val (.int p2), .val (.int p3), .val (.int p4), .val (.int 1), .val (.int 0), .val (.int (((p3.toUInt32 >>> ((2 : Int32) &&& 31).toUInt32).toInt32) &&& (3 : Int32))), .val .null, .val (.ref w0), .val (.ref b153), .val (.ref b172)] [(.ref b172)])) (fun target kt => ?_) ?_
      · refine XS.ifnonnullNo X197.here hx rfl (hb hby at_171) rfl ?_
        refine XS.aload X197.here hx rfl (hb hby at_174) rfl rfl ?_
        exact kt
      obtain ⟨T198, X198, e198, st198⟩ := getF X197 hx hZ hown (host := "") (Or.inl (hw _ tw73)) Via.refl e197 q184 (g := (mkF m 176 #[.val (.int p0), .val (.int p1), .val (.int p2), .val (.int p3), .val (.int p4), .val (.int 1), .val (.int 0), .val (.int (((p3.toUInt32 >>> ((2 : Int32) &&& 31).toUInt32).toInt32) &&& (3 : Int32))), .val .null, .val (.ref w0), .val (.ref b153), .val (.ref b172)] [(.ref b172)])) rfl rfl (hb hby at_176)
      refine GoW.st st198 ?_
      show GoW _ _ _ _ _ _ _ (T198.setTop (mkF m 179 _ [.null]))
      refine GoW.st (t' := T198.setTop (mkF m 184 #[.val (.int p0), .val (.int p1), .val (.int p2), .val (.int p3), .val (.int p4), .val (.int 1), .val (.int 0), .val (.int (((p3.toUInt32 >>> ((2 : Int32) &&& 31).toUInt32).toInt32) &&& (3 : Int32))), .val .null, .val (.ref w0), .val (.ref b153), .val (.ref b172)] [(.ref b172)])) (fun target kt => ?_) ?_
      · refine XS.ifnonnullNo X198.here hx rfl (hb hby at_179) rfl ?_
        refine XS.aload X198.here hx rfl (hb hby at_182) rfl rfl ?_
        exact kt
      obtain ⟨cq199, kq199, q199a, q199b, q199c⟩ := isOf hZ e198 q174
      obtain ⟨_, _, ⟨T199, L199, k199, n199⟩, -, X199, ⟨Lc199, hQ199, l199, y199, z199⟩, st199⟩ := X198.virtualBack hx (y := (⟨"com/example/graphweave/graphweave/jsonld/ActiveContext", "processed", "()Lcom/example/graphweave/graphweave/jsonld/ActiveContext;"⟩ : MethodName)) (z := (⟨"com/example/graphweave/graphweave/jsonld/ActiveContext", "processed", "()Lcom/example/graphweave/graphweave/jsonld/ActiveContext;"⟩ : MethodName)) hown (mvT hZ (hw _ tw75)) (mvT hZ (hw _ tw76)) (notFace_of_selects (args := #[]) (mvT hZ (hw _ tw78))) (mvT hZ (hw _ tw78)) (mvT hZ (hw _ tw77)) (by decide) (backOf (W := 0) (rm10 l Z a0 hw [] b172 T171.heap n0 (Nat.le_trans Z0 K187.1) O188  q179) hZ (hw _ tw79) (hw _ tw31) (by decide) (by decide)) q199a q199c (g := (mkF m 184 #[.val (.int p0), .val (.int p1), .val (.int p2), .val (.int p3), .val (.int p4), .val (.int 1), .val (.int 0), .val (.int (((p3.toUInt32 >>> ((2 : Int32) &&& 31).toUInt32).toInt32) &&& (3 : Int32))), .val .null, .val (.ref w0), .val (.ref b153), .val (.ref b172)] [(.ref b172)])) rfl (by rw [hml]; rfl) (Steps.refl _) (argsL := []) (rest := []) (lenOf pd19 rfl) rfl (by show 2 * 0 + _ ≤ _; exact Nat.le_of_eq rfl) (hb hby at_184) (fun _ _ => ⟨rfl, e198, (by decide : 3 + 0 ≤ _), (by decide : 15 + 0 ≤ _)⟩)
      dsimp only [Pt.U, Pt.locs, Pt.cells, Pt.slots] at X199 l199 y199 z199 st199 hQ199
      subst l199 y199 z199
      obtain ⟨rfl, Nq199, eq199⟩ := hQ199
      have N199 := Fr.app N194 Nq199
      refine GoW.by st199 ?_
      show GoW _ _ _ _ _ _ _ (T199.setTop (mkF m 187 _ [(.ref b172)]))
      refine GoW.st (t' := T199.setTop (mkF m 196 #[.val (.int p0), .val (.int p1), .val (.int p2), .val (.int p3), .val (.int p4), .val (.int 1), .val (.int 0), .val (.int (((p3.toUInt32 >>> ((2 : Int32) &&& 31).toUInt32).toInt32) &&& (3 : Int32))), .val .null, .val (.ref w0), .val (.ref b153), .val (.ref b172)] [(.ref b153), (.ref b172)])) (fun target kt => ?_) ?_
      · refine XS.aload X199.here hx rfl (hb hby at_187) rfl rfl ?_
        refine Jvm.RoadKit.acmp (g := (mkF m 189 #[.val (.int p0), .val (.int p1), .val (.int p2), .val (.int p3), .val (.int p4), .val (.int 1), .val (.int 0), .val (.int (((p3.toUInt32 >>> ((2 : Int32) &&& 31).toUInt32).toInt32) &&& (3 : Int32))), .val .null, .val (.ref w0), .val (.ref b153), .val (.ref b172)] [(.ref b172), (.ref b172)])) X199 hx rfl rfl rfl (pc0 := 189) (pc' := 192) (same := true) rfl (hb hby at_189) rfl (decide_eq_true rfl) (by decide) (by decide) ?_
        refine XS.aload X199.here hx rfl (hb hby at_192) rfl rfl ?_
        refine XS.aload X199.here hx rfl (hb hby at_194) rfl rfl ?_
        exact kt
      have c200 := q159.keep Kq171
      have c201 := q160.keep Kq171 nin0
      have c202 := q161.keep Kq171 nin0
      have c203 := q162.keep Kq171 nin0
      have c204 := q163.keep Kq171 nin0
      have c205 := q164.keep Kq171 nin0
      obtain ⟨cq206, kq206, q206a, q206b, q206c⟩ := isOf hZ eq199 q174
      obtain ⟨_, _, ⟨T206, L206, k206, n206⟩, -, X206, ⟨Lc206, hQ206, l206, y206, z206⟩, st206⟩ := X199.virtualBack hx (y := (⟨"com/example/graphweave/graphweave/jsonld/ActiveContext", "term", "(Ljava/lang/String;)Lcom/example/graphweave/graphweave/jsonld/TermDefinition;"⟩ : MethodName)) (z := (⟨"com/example/graphweave/graphweave/jsonld/ActiveContext", "term", "(Ljava/lang/String;)Lcom/example/graphweave/graphweave/jsonld/TermDefinition;"⟩ : MethodName)) hown (mvT hZ (hw _ tw80)) (mvT hZ (hw _ tw81)) (notFace_of_selects (args := #[]) (mvT hZ (hw _ tw83))) (mvT hZ (hw _ tw83)) (mvT hZ (hw _ tw82)) (by decide) (backOf (W := 0) (rm11_r l Z a0 hw [] b172 b153 wcs wt wr b154 k155 i156 T171.heap n0 (Nat.le_trans Z0 K187.1) O188 S_CS hcs E_wt F_wt E_wr F_wr g166 q178 c200 c201 c202 c203 c204 c205) hZ (hw _ tw84) (hw _ tw31) (by decide) (by decide)) q206a q206c (g := (mkF m 196 #[.val (.int p0), .val (.int p1), .val (.int p2), .val (.int p3), .val (.int p4), .val (.int 1), .val (.int 0), .val (.int (((p3.toUInt32 >>> ((2 : Int32) &&& 31).toUInt32).toInt32) &&& (3 : Int32))), .val .null, .val (.ref w0), .val (.ref b153), .val (.ref b172)] [(.ref b153), (.ref b172)])) rfl (by rw [hml]; rfl) (Steps.refl _) (argsL := [(.ref b153)]) (rest := []) (lenOf pd15 rfl) rfl (by show 2 * 0 + _ ≤ _; exact Nat.le_of_eq rfl) (hb hby at_196) (fun _ _ => ⟨rfl, eq199, (by decide : 3 + 0 ≤ _), (by decide : 15 + 0 ≤ _)⟩)
      dsimp only [Pt.U, Pt.locs, Pt.cells, Pt.slots] at X206 l206 y206 z206 st206 hQ206
      subst l206 y206 z206
      obtain ⟨rfl, Nq206, Kq206⟩ := hQ206
      have N206 := Fr.app N199 Nq206
      have K207 := K187.trans Kq206 (allS (Or.inr sz165) all0)
      have O208 := O188.keep Kq206 (allS g166 all0)
      refine GoW.by st206 ?_
      show GoW _ _ _ _ _ _ _ (T206.setTop (mkF m 199 _ [.null]))
      refine GoW.st (t' := T206.setTop (mkF m 205 #[.val (.int p0), .val (.int p1), .val (.int p2), .val (.int p3), .val (.int p4), .val (.int 1), .val (.int 0), .val (.int (((p3.toUInt32 >>> ((2 : Int32) &&& 31).toUInt32).toInt32) &&& (3 : Int32))), .val .null, .val (.ref w0), .val (.ref b153), .val (.ref b172)] [.null, (.ref b172)])) (fun target kt => ?_) ?_
      · refine XS.ifnonnullNo X206.here hx rfl (hb hby at_199) rfl ?_
        refine XS.aload X206.here hx rfl (hb hby at_202) rfl rfl ?_
        refine XS.aconstNull X206.here hx rfl (hb hby at_204) ?_
        exact kt
      have c210 := q174.keep Kq206
      obtain ⟨cq209, kq209, q209a, q209b, q209c⟩ := isOf hZ rfl c210
      obtain ⟨_, _, ⟨T209, L209, k209, n209⟩, -, X209, ⟨Lc209, hQ209, l209, y209, z209⟩, st209⟩ := X206.virtualBack hx (y := (⟨"com/example/graphweave/graphweave/jsonld/ActiveContext", "term", "(Ljava/lang/String;)Lcom/example/graphweave/graphweave/jsonld/TermDefinition;"⟩ : MethodName)) (z := (⟨"com/example/graphweave/graphweave/jsonld/ActiveContext", "term", "(Ljava/lang/String;)Lcom/example/graphweave/graphweave/jsonld/TermDefinition;"⟩ : MethodName)) hown (mvT hZ (hw _ tw80)) (mvT hZ (hw _ tw81)) (notFace_of_selects (args := #[]) (mvT hZ (hw _ tw83))) (mvT hZ (hw _ tw83)) (mvT hZ (hw _ tw82)) (by decide) (backOf (W := 0) (rm11_n l Z a0 hw [] b172 T206.heap n0 (Nat.le_trans Z0 K207.1) O208  ) hZ (hw _ tw84) (hw _ tw31) (by decide) (by decide)) q209a q209c (g := (mkF m 205 #[.val (.int p0), .val (.int p1), .val (.int p2), .val (.int p3), .val (.int p4), .val (.int 1), .val (.int 0), .val (.int (((p3.toUInt32 >>> ((2 : Int32) &&& 31).toUInt32).toInt32) &&& (3 : Int32))), .val .null, .val (.ref w0), .val (.ref b153), .val (.ref b172)] [.null, (.ref b172)])) rfl (by rw [hml]; rfl) (Steps.refl _) (argsL := [.null]) (rest := []) (lenOf pd15 rfl) rfl (by show 2 * 0 + _ ≤ _; exact Nat.le_of_eq rfl) (hb hby at_205) (fun _ _ => ⟨rfl, rfl, (by decide : 3 + 0 ≤ _), (by decide : 15 + 0 ≤ _)⟩)
      dsimp only [Pt.U, Pt.locs, Pt.cells, Pt.slots] at X209 l209 y209 z209 st209 hQ209
      subst l209 y209 z209
      obtain ⟨rfl, Nq209, eq209⟩ := hQ209
      have N209 := Fr.app N206 Nq209
      refine GoW.by st209 ?_
      show GoW _ _ _ _ _ _ _ (T209.setTop (mkF m 208 _ [.null]))
      refine GoW.st (t' := T209.setTop (mkF m 216 #[.val (.int p0), .val (.int p1), .val (.int p2), .val (.int p3), .val (.int p4), .val (.int 1), .val (.int 0), .val (.int (((p3.toUInt32 >>> ((2 : Int32) &&& 31).toUInt32).toInt32) &&& (3 : Int32))), .val .null, .val (.ref w0), .val (.ref b153), .val (.ref b172)] [(.int 1)])) (fun target kt => ?_) ?_
      · refine XS.ifnonnullNo X209.here hx rfl (hb hby at_208) rfl ?_
        refine XS.iconst X209.here hx rfl (hb hby at_211) ?_
        refine XS.goto X209.here hx rfl (pc0 := 212) (pc' := 216) rfl (hb hby at_212) (by decide) (by decide) ?_
        exact kt
      refine GoW.ret X209 hSi (by rw [eq209]; exact (Nat.le_trans (Nat.zero_le _) (Nat.le_trans (Nat.le_trans Kq152.1 Kq171.1) Kq206.1))) (v := some (.int 1)) (fun h => by rw [hret] at h; cases h) hlk (fun fs hr => retN X209 hx (t := .boolean) hret (by simp) (hb hby at_216) hr) ?_ (by decide) (by decide)
      show Q0 Z p0 p1 p2 p3 p4 w0 w1 wt wr wcs h0 n0 _ T209.heap _
      rw [eq209]
      exact ⟨rfl, N209, K207⟩
    · refine GoW.st (t' := s₁.setTop (mkF m 57 #[.val (.int p0), .val (.int p1), .val (.int p2), .val (.int p3), .val (.int p4), .val (.int 1), .val (.int 1), .val (.int (((p3.toUInt32 >>> ((2 : Int32) &&& 31).toUInt32).toInt32) &&& (3 : Int32))), .val .null, .unset, .unset, .unset] [])) (fun target kt => ?_) ?_
      · refine XS.ifNo X0.here hx rfl (hb hby at_16) rfl ((if0 _ _).trans (feq hc150).1) ?_
        refine XS.iconst X0.here hx rfl (hb hby at_19) ?_
        refine XS.goto X0.here hx rfl (pc0 := 20) (pc' := 24) rfl (hb hby at_20) (by decide) (by decide) ?_
        refine XS.istore X0.here hx rfl (hb hby at_24) rfl (l' := #[.val (.int p0), .val (.int p1), .val (.int p2), .val (.int p3), .val (.int p4), .val (.int 1), .val (.int 1), .unset, .unset, .unset, .unset, .unset]) rfl ?_
        refine XS.iloadN X0.here hx rfl (hb hby at_26) rfl ?_
        refine XS.iconst X0.here hx rfl (hb hby at_27) ?_
        refine XS.iushr X0.here hx rfl (hb hby at_28) rfl ?_
        refine XS.iconst X0.here hx rfl (hb hby at_29) ?_
        refine XS.iand X0.here hx rfl (hb hby at_30) rfl ?_
        refine XS.istore X0.here hx rfl (hb hby at_31) rfl (l' := #[.val (.int p0), .val (.int p1), .val (.int p2), .val (.int p3), .val (.int p4), .val (.int 1), .val (.int 1), .val (.int (((p3.toUInt32 >>> ((2 : Int32) &&& 31).toUInt32).toInt32) &&& (3 : Int32))), .unset, .unset, .unset, .unset]) rfl ?_
        refine XS.iload X0.here hx rfl (hb hby at_33) rfl ?_
        refine XS.ifNo X0.here hx rfl (hb hby at_35) rfl ((if0 _ _).trans (feq (by decide : ¬ ((1 : Int32) = (0 : Int32)))).1) ?_
        refine XS.aconstNull X0.here hx rfl (hb hby at_38) ?_
        refine XS.goto X0.here hx rfl (pc0 := 39) (pc' := 50) rfl (hb hby at_39) (by decide) (by decide) ?_
        refine XS.astore X0.here hx rfl (hb hby at_50) rfl rfl (l' := #[.val (.int p0), .val (.int p1), .val (.int p2), .val (.int p3), .val (.int p4), .val (.int 1), .val (.int 1), .val (.int (((p3.toUInt32 >>> ((2 : Int32) &&& 31).toUInt32).toInt32) &&& (3 : Int32))), .val .null, .unset, .unset, .unset]) rfl ?_
        refine XS.iload X0.here hx rfl (hb hby at_52) rfl ?_
        refine XS.ifNo X0.here hx rfl (hb hby at_54) rfl ((if0 _ _).trans (feq (by decide : ¬ ((1 : Int32) = (0 : Int32)))).1) ?_
        exact kt
      obtain ⟨T211, X211, e211, st211⟩ := getS2 X0 hx hZ hown (host := "") (Or.inl (hw _ tw116)) Via.refl e0 (S_11.ext O0.2) (g := (mkF m 57 #[.val (.int p0), .val (.int p1), .val (.int p2), .val (.int p3), .val (.int p4), .val (.int 1), .val (.int 1), .val (.int (((p3.toUInt32 >>> ((2 : Int32) &&& 31).toUInt32).toInt32) &&& (3 : Int32))), .val .null, .unset, .unset, .unset] [])) rfl (hb hby at_57)
      refine GoW.st st211 ?_
      show GoW _ _ _ _ _ _ _ (T211.setTop (mkF m 60 _ [(.ref w1)]))
      refine GoW.st (t' := T211.setTop (mkF m 75 #[.val (.int p0), .val (.int p1), .val (.int p2), .val (.int p3), .val (.int p4), .val (.int 1), .val (.int 1), .val (.int (((p3.toUInt32 >>> ((2 : Int32) &&& 31).toUInt32).toInt32) &&& (3 : Int32))), .val .null, .val (.ref w1), .unset, .unset] [(.int ((p4 &&& (255 : Int32)).toUInt32.toUInt16.toUInt32.toInt32))])) (fun target kt => ?_) ?_
      · refine XS.goto X211.here hx rfl (pc0 := 60) (pc' := 66) rfl (hb hby at_60) (by decide) (by decide) ?_
        refine XS.astore X211.here hx rfl (hb hby at_66) rfl rfl (l' := #[.val (.int p0), .val (.int p1), .val (.int p2), .val (.int p3), .val (.int p4), .val (.int 1), .val (.int 1), .val (.int (((p3.toUInt32 >>> ((2 : Int32) &&& 31).toUInt32).toInt32) &&& (3 : Int32))), .val .null, .val (.ref w1), .unset, .unset]) rfl ?_
        refine XS.iload X211.here hx rfl (hb hby at_68) rfl ?_
        refine XS.sipush X211.here hx rfl (hb hby at_70) ?_
        refine XS.iand X211.here hx rfl (hb hby at_73) rfl ?_
        refine XS.i2c X211.here hx rfl (hb hby at_74) rfl ?_
        exact kt
      obtain ⟨_, _, ⟨T212, L212, k212, n212⟩, -, X212, ⟨Lc212, hQ212, l212, y212, z212⟩, st212⟩ := Jvm.LawKit.callS X211 hx (y := (⟨"java/lang/String", "valueOf", "(C)Ljava/lang/String;"⟩ : MethodName)) hown (mvT hZ (hw _ tw3)) (mvT hZ (hw _ tw4)) (mvT hZ (hw _ tw5)) (mvT hZ (hw _ tw6)) (by decide) (backOf (W := 0) (rm1 l Z a0 hw [] ((p4 &&& (255 : Int32)).toUInt32.toUInt16.toUInt32.toInt32) wcs h0 n0 (Nat.le_trans Z0 K0.1) O0 S_CS hcs (own_c255 p4)) hZ (hw _ tw6) (hw _ tw5) (by decide) (by decide)) (g := (mkF m 75 #[.val (.int p0), .val (.int p1), .val (.int p2), .val (.int p3), .val (.int p4), .val (.int 1), .val (.int 1), .val (.int (((p3.toUInt32 >>> ((2 : Int32) &&& 31).toUInt32).toInt32) &&& (3 : Int32))), .val .null, .val (.ref w1), .unset, .unset] [(.int ((p4 &&& (255 : Int32)).toUInt32.toUInt16.toUInt32.toInt32))])) rfl (by rw [hml]; rfl) (argsL := [(.int ((p4 &&& (255 : Int32)).toUInt32.toUInt16.toUInt32.toInt32))]) (rest := []) (lenOf pd8 rfl) rfl (by show 2 * 0 + _ ≤ _; exact Nat.le_of_eq rfl) (hb hby at_75) (fun _ _ => ⟨rfl, e211, (by decide : 0 + 2 ≤ _), (by decide : 0 + 5 ≤ _)⟩)
      dsimp only [Pt.U, Pt.locs, Pt.cells, Pt.slots] at X212 l212 y212 z212 st212 hQ212
      subst l212 y212 z212
      obtain ⟨b213, b214, k215, i216, rfl, Nq212, Kq212, q217, q218, q219, q220, q221, q222, q223, q224⟩ := hQ212
      have N212 := Fr.app N0 Nq212
      have sz225 : h0.size ≤ b213 := Nat.le_trans K0.1 q217
      have g226 : n0 ≤ b213 := Nat.le_trans Z0 sz225
      have sz227 : h0.size ≤ b214 := Nat.le_trans K0.1 q218
      have g228 : n0 ≤ b214 := Nat.le_trans Z0 sz227
      have K229 := K0.trans Kq212 all0
      have O230 := O0.keep Kq212 all0
      refine GoW.st st212 ?_
      show GoW _ _ _ _ _ _ _ (T212.setTop (mkF m 78 _ [(.ref b213)]))
      refine GoW.st (t' := T212.setTop (mkF m 84 #[.val (.int p0), .val (.int p1), .val (.int p2), .val (.int p3), .val (.int p4), .val (.int 1), .val (.int 1), .val (.int (((p3.toUInt32 >>> ((2 : Int32) &&& 31).toUInt32).toInt32) &&& (3 : Int32))), .val .null, .val (.ref w1), .val (.ref b213), .unset] [(.ref w1), .null])) (fun target kt => ?_) ?_
      · refine XS.astore X212.here hx rfl (hb hby at_78) rfl rfl (l' := #[.val (.int p0), .val (.int p1), .val (.int p2), .val (.int p3), .val (.int p4), .val (.int 1), .val (.int 1), .val (.int (((p3.toUInt32 >>> ((2 : Int32) &&& 31).toUInt32).toInt32) &&& (3 : Int32))), .val .null, .val (.ref w1), .val (.ref b213), .unset]) rfl ?_
        refine XS.aload X212.here hx rfl (hb hby at_80) rfl rfl ?_
        refine XS.aload X212.here hx rfl (hb hby at_82) rfl rfl ?_
        exact kt
      obtain ⟨_, _, ⟨T231, L231, k231, n231⟩, -, X231, ⟨Lc231, hQ231, l231, y231, z231⟩, st231⟩ := Jvm.LawKit.callS X212 hx (y := (⟨"com/example/graphweave/graphweave/jsonld/ActiveContext", "initial", "(Ljava/lang/String;Lcom/example/graphweave/graphweave/jsonld/ProcessingMode;)Lcom/example/graphweave/graphweave/jsonld/ActiveContext;"⟩ : MethodName)) hown (mvT hZ (hw _ tw29)) (mvT hZ (hw _ tw30)) (mvT hZ (hw _ tw31)) (mvT hZ (hw _ tw32)) (by decide) (backOf (W := 0) (rm6_n l Z a0 hw [] w1 wt wr T212.heap n0 (Nat.le_trans Z0 K229.1) O230 S_EM ) hZ (hw _ tw32) (hw _ tw31) (by decide) (by decide)) (g := (mkF m 84 #[.val (.int p0), .val (.int p1), .val (.int p2), .val (.int p3), .val (.int p4), .val (.int 1), .val (.int 1), .val (.int (((p3.toUInt32 >>> ((2 : Int32) &&& 31).toUInt32).toInt32) &&& (3 : Int32))), .val .null, .val (.ref w1), .val (.ref b213), .unset] [(.ref w1), .null])) rfl (by rw [hml]; rfl) (argsL := [.null, (.ref w1)]) (rest := []) (lenOf pd17 rfl) rfl (by show 2 * 0 + _ ≤ _; exact Nat.le_of_eq rfl) (hb hby at_84) (fun _ _ => ⟨rfl, rfl, (by decide : 2 + 1 ≤ _), (by decide : 5 + 10 ≤ _)⟩)
      dsimp only [Pt.U, Pt.locs, Pt.cells, Pt.slots] at X231 l231 y231 z231 st231 hQ231
      subst l231 y231 z231
      obtain ⟨b232, rfl, Nq231, Kq231, q233, q234, q235, q236, q237, q238, q239, q240, q241, q242, q243, q244⟩ := hQ231
      have N231 := Fr.app N212 Nq231
      have sz245 : h0.size ≤ b232 := Nat.le_trans K229.1 q233
      have g246 : n0 ≤ b232 := Nat.le_trans Z0 sz245
      have K247 := K229.trans Kq231 all0
      have O248 := O230.keep Kq231 all0
      refine GoW.st st231 ?_
      show GoW _ _ _ _ _ _ _ (T231.setTop (mkF m 87 _ [(.ref b232)]))
      refine GoW.st (t' := T231.setTop (mkF m 98 #[.val (.int p0), .val (.int p1), .val (.int p2), .val (.int p3), .val (.int p4), .val (.int 1), .val (.int 1), .val (.int (((p3.toUInt32 >>> ((2 : Int32) &&& 31).toUInt32).toInt32) &&& (3 : Int32))), .val .null, .val (.ref w1), .val (.ref b213), .val (.ref b232)] [(.ref b232)])) (fun target kt => ?_) ?_
      · refine XS.astore X231.here hx rfl (hb hby at_87) rfl rfl (l' := #[.val (.int p0), .val (.int p1), .val (.int p2), .val (.int p3), .val (.int p4), .val (.int 1), .val (.int 1), .val (.int (((p3.toUInt32 >>> ((2 : Int32) &&& 31).toUInt32).toInt32) &&& (3 : Int32))), .val .null, .val (.ref w1), .val (.ref b213), .val (.ref b232)]) rfl ?_
        refine XS.aload X231.here hx rfl (hb hby at_89) rfl rfl ?_
        refine XS.ifnonnullYes X231.here hx rfl (pc0 := 91) (pc' := 96) rfl (hb hby at_91) rfl (by decide) (by decide) ?_
        refine XS.aload X231.here hx rfl (hb hby at_96) rfl rfl ?_
        exact kt
      obtain ⟨T249, X249, e249, st249⟩ := getF X231 hx hZ hown (host := "") (Or.inl (hw _ tw54)) Via.refl rfl q235 (g := (mkF m 98 #[.val (.int p0), .val (.int p1), .val (.int p2), .val (.int p3), .val (.int p4), .val (.int 1), .val (.int 1), .val (.int (((p3.toUInt32 >>> ((2 : Int32) &&& 31).toUInt32).toInt32) &&& (3 : Int32))), .val .null, .val (.ref w1), .val (.ref b213), .val (.ref b232)] [(.ref b232)])) rfl rfl (hb hby at_98)
      refine GoW.st st249 ?_
      show GoW _ _ _ _ _ _ _ (T249.setTop (mkF m 101 _ [.null]))
      refine GoW.st (t' := T249.setTop (mkF m 103 #[.val (.int p0), .val (.int p1), .val (.int p2), .val (.int p3), .val (.int p4), .val (.int 1), .val (.int 1), .val (.int (((p3.toUInt32 >>> ((2 : Int32) &&& 31).toUInt32).toInt32) &&& (3 : Int32))), .val .null, .val (.ref w1), .val (.ref b213), .val (.ref b232)] [.null, .null])) (fun target kt => ?_) ?_
      · refine XS.aload X249.here hx rfl (hb hby at_101) rfl rfl ?_
        exact kt
      obtain ⟨_, _, ⟨T250, L250, k250, n250⟩, -, X250, ⟨Lc250, hQ250, l250, y250, z250⟩, st250⟩ := Jvm.LawKit.callS X249 hx (y := (⟨"com/example/graphweave/graphweave/jsonld/ActiveContextInitialPinLaw", "same", "(Ljava/lang/String;Ljava/lang/String;)Z"⟩ : MethodName)) hown (mvT hZ (hw _ tw55)) (mvT hZ (hw _ tw56)) (mvT hZ (hw _ tw57)) (mvT hZ (hw _ tw58)) (by decide) (backOf (W := 0) (rm8_n l Z a0 hw []  T231.heap n0 (Nat.le_trans Z0 K247.1) O248  ) hZ (hw _ tw58) (hw _ tw57) (by decide) (by decide)) (g := (mkF m 103 #[.val (.int p0), .val (.int p1), .val (.int p2), .val (.int p3), .val (.int p4), .val (.int 1), .val (.int 1), .val (.int (((p3.toUInt32 >>> ((2 : Int32) &&& 31).toUInt32).toInt32) &&& (3 : Int32))), .val .null, .val (.ref w1), .val (.ref b213), .val (.ref b232)] [.null, .null])) rfl (by rw [hml]; rfl) (argsL := [.null, .null]) (rest := []) (lenOf pd18 rfl) rfl (by show 2 * 0 + _ ≤ _; exact Nat.le_of_eq rfl) (hb hby at_103) (fun _ _ => ⟨rfl, e249, (by decide : 3 + 0 ≤ _), (by decide : 15 + 0 ≤ _)⟩)
      dsimp only [Pt.U, Pt.locs, Pt.cells, Pt.slots] at X250 l250 y250 z250 st250 hQ250
      subst l250 y250 z250
      obtain ⟨rfl, Nq250, eq250⟩ := hQ250
      have N250 := Fr.app N231 Nq250
      refine GoW.st st250 ?_
      show GoW _ _ _ _ _ _ _ (T250.setTop (mkF m 106 _ [(.int 1)]))
      refine GoW.st (t' := T250.setTop (mkF m 111 #[.val (.int p0), .val (.int p1), .val (.int p2), .val (.int p3), .val (.int p4), .val (.int 1), .val (.int 1), .val (.int (((p3.toUInt32 >>> ((2 : Int32) &&& 31).toUInt32).toInt32) &&& (3 : Int32))), .val .null, .val (.ref w1), .val (.ref b213), .val (.ref b232)] [(.ref b232)])) (fun target kt => ?_) ?_
      · refine XS.ifNo X250.here hx rfl (hb hby at_106) rfl ((if0 _ _).trans (feq (by decide : ¬ ((1 : Int32) = (0 : Int32)))).1) ?_
        refine XS.aload X250.here hx rfl (hb hby at_109) rfl rfl ?_
        exact kt
      obtain ⟨T251, X251, e251, st251⟩ := getF X250 hx hZ hown (host := "") (Or.inl (hw _ tw59)) Via.refl eq250 q237 (g := (mkF m 111 #[.val (.int p0), .val (.int p1), .val (.int p2), .val (.int p3), .val (.int p4), .val (.int 1), .val (.int 1), .val (.int (((p3.toUInt32 >>> ((2 : Int32) &&& 31).toUInt32).toInt32) &&& (3 : Int32))), .val .null, .val (.ref w1), .val (.ref b213), .val (.ref b232)] [(.ref b232)])) rfl rfl (hb hby at_111)
      refine GoW.st st251 ?_
      show GoW _ _ _ _ _ _ _ (T251.setTop (mkF m 114 _ [.null]))
      refine GoW.st (t' := T251.setTop (mkF m 116 #[.val (.int p0), .val (.int p1), .val (.int p2), .val (.int p3), .val (.int p4), .val (.int 1), .val (.int 1), .val (.int (((p3.toUInt32 >>> ((2 : Int32) &&& 31).toUInt32).toInt32) &&& (3 : Int32))), .val .null, .val (.ref w1), .val (.ref b213), .val (.ref b232)] [.null, .null])) (fun target kt => ?_) ?_
      · refine XS.aload X251.here hx rfl (hb hby at_114) rfl rfl ?_
        exact kt
      obtain ⟨_, _, ⟨T252, L252, k252, n252⟩, -, X252, ⟨Lc252, hQ252, l252, y252, z252⟩, st252⟩ := Jvm.LawKit.callS X251 hx (y := (⟨"com/example/graphweave/graphweave/jsonld/ActiveContextInitialPinLaw", "same", "(Ljava/lang/String;Ljava/lang/String;)Z"⟩ : MethodName)) hown (mvT hZ (hw _ tw55)) (mvT hZ (hw _ tw56)) (mvT hZ (hw _ tw57)) (mvT hZ (hw _ tw58)) (by decide) (backOf (W := 0) (rm8_n l Z a0 hw []  T231.heap n0 (Nat.le_trans Z0 K247.1) O248  ) hZ (hw _ tw58) (hw _ tw57) (by decide) (by decide)) (g := (mkF m 116 #[.val (.int p0), .val (.int p1), .val (.int p2), .val (.int p3), .val (.int p4), .val (.int 1), .val (.int 1), .val (.int (((p3.toUInt32 >>> ((2 : Int32) &&& 31).toUInt32).toInt32) &&& (3 : Int32))), .val .null, .val (.ref w1), .val (.ref b213), .val (.ref b232)] [.null, .null])) rfl (by rw [hml]; rfl) (argsL := [.null, .null]) (rest := []) (lenOf pd18 rfl) rfl (by show 2 * 0 + _ ≤ _; exact Nat.le_of_eq rfl) (hb hby at_116) (fun _ _ => ⟨rfl, e251, (by decide : 3 + 0 ≤ _), (by decide : 15 + 0 ≤ _)⟩)
      dsimp only [Pt.U, Pt.locs, Pt.cells, Pt.slots] at X252 l252 y252 z252 st252 hQ252
      subst l252 y252 z252
      obtain ⟨rfl, Nq252, eq252⟩ := hQ252
      have N252 := Fr.app N250 Nq252
      refine GoW.st st252 ?_
      show GoW _ _ _ _ _ _ _ (T252.setTop (mkF m 119 _ [(.int 1)]))
      refine GoW.st (t' := T252.setTop (mkF m 124 #[.val (.int p0), .val (.int p1), .val (.int p2), .val (.int p3), .val (.int p4), .val (.int 1), .val (.int 1), .val (.int (((p3.toUInt32 >>> ((2 : Int32) &&& 31).toUInt32).toInt32) &&& (3 : Int32))), .val .null, .val (.ref w1), .val (.ref b213), .val (.ref b232)] [(.ref b232)])) (fun target kt => ?_) ?_
      · refine XS.ifNo X252.here hx rfl (hb hby at_119) rfl ((if0 _ _).trans (feq (by decide : ¬ ((1 : Int32) = (0 : Int32)))).1) ?_
        refine XS.aload X252.here hx rfl (hb hby at_122) rfl rfl ?_
        exact kt
      obtain ⟨T253, X253, e253, st253⟩ := getF X252 hx hZ hown (host := "") (Or.inl (hw _ tw60)) Via.refl eq252 q236 (g := (mkF m 124 #[.val (.int p0), .val (.int p1), .val (.int p2), .val (.int p3), .val (.int p4), .val (.int 1), .val (.int 1), .val (.int (((p3.toUInt32 >>> ((2 : Int32) &&& 31).toUInt32).toInt32) &&& (3 : Int32))), .val .null, .val (.ref w1), .val (.ref b213), .val (.ref b232)] [(.ref b232)])) rfl rfl (hb hby at_124)
      refine GoW.st st253 ?_
      show GoW _ _ _ _ _ _ _ (T253.setTop (mkF m 127 _ [(.ref w1)]))
      refine GoW.st (t' := T253.setTop (mkF m 134 #[.val (.int p0), .val (.int p1), .val (.int p2), .val (.int p3), .val (.int p4), .val (.int 1), .val (.int 1), .val (.int (((p3.toUInt32 >>> ((2 : Int32) &&& 31).toUInt32).toInt32) &&& (3 : Int32))), .val .null, .val (.ref w1), .val (.ref b213), .val (.ref b232)] [(.ref b232)])) (fun target kt => ?_) ?_
      · refine XS.aload X253.here hx rfl (hb hby at_127) rfl rfl ?_
        refine Jvm.RoadKit.acmp (g := (mkF m 129 #[.val (.int p0), .val (.int p1), .val (.int p2), .val (.int p3), .val (.int p4), .val (.int 1), .val (.int 1), .val (.int (((p3.toUInt32 >>> ((2 : Int32) &&& 31).toUInt32).toInt32) &&& (3 : Int32))), .val .null, .val (.ref w1), .val (.ref b213), .val (.ref b232)] [(.ref w1), (.ref w1)])) X253 hx rfl rfl rfl (pc0 := 129) (pc' := 132) (same := true) rfl (hb hby at_129) rfl (decide_eq_true rfl) (by decide) (by decide) ?_
        refine XS.aload X253.here hx rfl (hb hby at_132) rfl rfl ?_
        exact kt
      obtain ⟨cq254, kq254, q254a, q254b, q254c⟩ := isOf hZ e253 q234
      obtain ⟨_, _, ⟨T254, L254, k254, n254⟩, -, X254, ⟨Lc254, hQ254, l254, y254, z254⟩, st254⟩ := X253.virtualBack hx (y := (⟨"com/example/graphweave/graphweave/jsonld/ActiveContext", "isJsonLd10", "()Z"⟩ : MethodName)) (z := (⟨"com/example/graphweave/graphweave/jsonld/ActiveContext", "isJsonLd10", "()Z"⟩ : MethodName)) hown (mvT hZ (hw _ tw61)) (mvT hZ (hw _ tw62)) (notFace_of_selects (args := #[]) (mvT hZ (hw _ tw64))) (mvT hZ (hw _ tw64)) (mvT hZ (hw _ tw63)) (by decide) (backOf (W := 0) (rm9_1 l Z a0 hw [] b232 w0 w1 T231.heap n0 (Nat.le_trans Z0 K247.1) O248 S_10 hpm q236) hZ (hw _ tw65) (hw _ tw31) (by decide) (by decide)) q254a q254c (g := (mkF m 134 #[.val (.int p0), .val (.int p1), .val (.int p2), .val (.int p3), .val (.int p4), .val (.int 1), .val (.int 1), .val (.int (((p3.toUInt32 >>> ((2 : Int32) &&& 31).toUInt32).toInt32) &&& (3 : Int32))), .val .null, .val (.ref w1), .val (.ref b213), .val (.ref b232)] [(.ref b232)])) rfl (by rw [hml]; rfl) (Steps.refl _) (argsL := []) (rest := []) (lenOf pd11 rfl) rfl (by show 2 * 0 + _ ≤ _; exact Nat.le_of_eq rfl) (hb hby at_134) (fun _ _ => ⟨rfl, e253, (by decide : 3 + 0 ≤ _), (by decide : 15 + 0 ≤ _)⟩)
      dsimp only [Pt.U, Pt.locs, Pt.cells, Pt.slots] at X254 l254 y254 z254 st254 hQ254
      subst l254 y254 z254
      obtain ⟨rfl, Nq254, eq254⟩ := hQ254
      have N254 := Fr.app N252 Nq254
      refine GoW.by st254 ?_
      show GoW _ _ _ _ _ _ _ (T254.setTop (mkF m 137 _ [(.int 0)]))
      refine GoW.st (t' := T254.setTop (mkF m 152 #[.val (.int p0), .val (.int p1), .val (.int p2), .val (.int p3), .val (.int p4), .val (.int 1), .val (.int 1), .val (.int (((p3.toUInt32 >>> ((2 : Int32) &&& 31).toUInt32).toInt32) &&& (3 : Int32))), .val .null, .val (.ref w1), .val (.ref b213), .val (.ref b232)] [(.ref b232)])) (fun target kt => ?_) ?_
      · refine XS.iload X254.here hx rfl (hb hby at_137) rfl ?_
        refine XS.ifYes X254.here hx rfl (pc0 := 139) (pc' := 146) rfl (hb hby at_139) rfl ((if0 _ _).trans (feq (by decide : ¬ ((1 : Int32) = (0 : Int32)))).2) (by decide) (by decide) ?_
        refine XS.iconst X254.here hx rfl (hb hby at_146) ?_
        refine XS.icmpNo X254.here hx rfl (hb hby at_147) rfl (teq (by decide : (0 : Int32) = (0 : Int32))).2 ?_
        refine XS.aload X254.here hx rfl (hb hby at_150) rfl rfl ?_
        exact kt
      obtain ⟨T255, X255, e255, st255⟩ := getF X254 hx hZ hown (host := "") (Or.inl (hw _ tw67)) Via.refl eq254 q241 (g := (mkF m 152 #[.val (.int p0), .val (.int p1), .val (.int p2), .val (.int p3), .val (.int p4), .val (.int 1), .val (.int 1), .val (.int (((p3.toUInt32 >>> ((2 : Int32) &&& 31).toUInt32).toInt32) &&& (3 : Int32))), .val .null, .val (.ref w1), .val (.ref b213), .val (.ref b232)] [(.ref b232)])) rfl rfl (hb hby at_152)
      refine GoW.st st255 ?_
      show GoW _ _ _ _ _ _ _ (T255.setTop (mkF m 155 _ [.null]))
      refine GoW.st (t' := T255.setTop (mkF m 160 #[.val (.int p0), .val (.int p1), .val (.int p2), .val (.int p3), .val (.int p4), .val (.int 1), .val (.int 1), .val (.int (((p3.toUInt32 >>> ((2 : Int32) &&& 31).toUInt32).toInt32) &&& (3 : Int32))), .val .null, .val (.ref w1), .val (.ref b213), .val (.ref b232)] [(.ref b232)])) (fun target kt => ?_) ?_
      · refine XS.ifnonnullNo X255.here hx rfl (hb hby at_155) rfl ?_
        refine XS.aload X255.here hx rfl (hb hby at_158) rfl rfl ?_
        exact kt
      obtain ⟨T256, X256, e256, st256⟩ := getF X255 hx hZ hown (host := "") (Or.inl (hw _ tw69)) Via.refl e255 q242 (g := (mkF m 160 #[.val (.int p0), .val (.int p1), .val (.int p2), .val (.int p3), .val (.int p4), .val (.int 1), .val (.int 1), .val (.int (((p3.toUInt32 >>> ((2 : Int32) &&& 31).toUInt32).toInt32) &&& (3 : Int32))), .val .null, .val (.ref w1), .val (.ref b213), .val (.ref b232)] [(.ref b232)])) rfl rfl (hb hby at_160)
      refine GoW.st st256 ?_
      show GoW _ _ _ _ _ _ _ (T256.setTop (mkF m 163 _ [.null]))
      refine GoW.st (t' := T256.setTop (mkF m 168 #[.val (.int p0), .val (.int p1), .val (.int p2), .val (.int p3), .val (.int p4), .val (.int 1), .val (.int 1), .val (.int (((p3.toUInt32 >>> ((2 : Int32) &&& 31).toUInt32).toInt32) &&& (3 : Int32))), .val .null, .val (.ref w1), .val (.ref b213), .val (.ref b232)] [(.ref b232)])) (fun target kt => ?_) ?_
      · refine XS.ifnonnullNo X256.here hx rfl (hb hby at_163) rfl ?_
        refine XS.aload X256.here hx rfl (hb hby at_166) rfl rfl ?_
        exact kt
      obtain ⟨T257, X257, e257, st257⟩ := getF X256 hx hZ hown (host := "") (Or.inl (hw _ tw71)) Via.refl e256 q243 (g := (mkF m 168 #[.val (.int p0), .val (.int p1), .val (.int p2), .val (.int p3), .val (.int p4), .val (.int 1), .val (.int 1), .val (.int (((p3.toUInt32 >>> ((2 : Int32) &&& 31).toUInt32).toInt32) &&& (3 : Int32))), .val .null, .val (.ref w1), .val (.ref b213), .val (.ref b232)] [(.ref b232)])) rfl rfl (hb hby at_168)
      refine GoW.st st257 ?_
      show GoW _ _ _ _ _ _ _ (T257.setTop (mkF m 171 _ [.null]))
      refine GoW.st (t' := T257.setTop (mkF m 176 #[.val (.int p0), .val (.int p1), .val (.int p2), .val (.int p3), .val (.int p4), .val (.int 1), .val (.int 1), .val (.int (((p3.toUInt32 >>> ((2 : Int32) &&& 31).toUInt32).toInt32) &&& (3 : Int32))), .val .null, .val (.ref w1), .val (.ref b213), .val (.ref b232)] [(.ref b232)])) (fun target kt => ?_) ?_
      · refine XS.ifnonnullNo X257.here hx rfl (hb hby at_171) rfl ?_
        refine XS.aload X257.here hx rfl (hb hby at_174) rfl rfl ?_
        exact kt
      obtain ⟨T258, X258, e258, st258⟩ := getF X257 hx hZ hown (host := "") (Or.inl (hw _ tw73)) Via.refl e257 q244 (g := (mkF m 176 #[.val (.int p0), .val (.int p1), .val (.int p2), .val (.int p3), .val (.int p4), .val (.int 1), .val (.int 1), .val (.int (((p3.toUInt32 >>> ((2 : Int32) &&& 31).toUInt32).toInt32) &&& (3 : Int32))), .val .null, .val (.ref w1), .val (.ref b213), .val (.ref b232)] [(.ref b232)])) rfl rfl (hb hby at_176)
      refine GoW.st st258 ?_
      show GoW _ _ _ _ _ _ _ (T258.setTop (mkF m 179 _ [.null]))
      refine GoW.st (t' := T258.setTop (mkF m 184 #[.val (.int p0), .val (.int p1), .val (.int p2), .val (.int p3), .val (.int p4), .val (.int 1), .val (.int 1), .val (.int (((p3.toUInt32 >>> ((2 : Int32) &&& 31).toUInt32).toInt32) &&& (3 : Int32))), .val .null, .val (.ref w1), .val (.ref b213), .val (.ref b232)] [(.ref b232)])) (fun target kt => ?_) ?_
      · refine XS.ifnonnullNo X258.here hx rfl (hb hby at_179) rfl ?_
        refine XS.aload X258.here hx rfl (hb hby at_182) rfl rfl ?_
        exact kt
      obtain ⟨cq259, kq259, q259a, q259b, q259c⟩ := isOf hZ e258 q234
      obtain ⟨_, _, ⟨T259, L259, k259, n259⟩, -, X259, ⟨Lc259, hQ259, l259, y259, z259⟩, st259⟩ := X258.virtualBack hx (y := (⟨"com/example/graphweave/graphweave/jsonld/ActiveContext", "processed", "()Lcom/example/graphweave/graphweave/jsonld/ActiveContext;"⟩ : MethodName)) (z := (⟨"com/example/graphweave/graphweave/jsonld/ActiveContext", "processed", "()Lcom/example/graphweave/graphweave/jsonld/ActiveContext;"⟩ : MethodName)) hown (mvT hZ (hw _ tw75)) (mvT hZ (hw _ tw76)) (notFace_of_selects (args := #[]) (mvT hZ (hw _ tw78))) (mvT hZ (hw _ tw78)) (mvT hZ (hw _ tw77)) (by decide) (backOf (W := 0) (rm10 l Z a0 hw [] b232 T231.heap n0 (Nat.le_trans Z0 K247.1) O248  q239) hZ (hw _ tw79) (hw _ tw31) (by decide) (by decide)) q259a q259c (g := (mkF m 184 #[.val (.int p0), .val (.int p1), .val (.int p2), .val (.int p3), .val (.int p4), .val (.int 1), .val (.int 1), .val (.int (((p3.toUInt32 >>> ((2 : Int32) &&& 31).toUInt32).toInt32) &&& (3 : Int32))), .val .null, .val (.ref w1), .val (.ref b213), .val (.ref b232)] [(.ref b232)])) rfl (by rw [hml]; rfl) (Steps.refl _) (argsL := []) (rest := []) (lenOf pd19 rfl) rfl (by show 2 * 0 + _ ≤ _; exact Nat.le_of_eq rfl) (hb hby at_184) (fun _ _ => ⟨rfl, e258, (by decide : 3 + 0 ≤ _), (by decide : 15 + 0 ≤ _)⟩)
      dsimp only [Pt.U, Pt.locs, Pt.cells, Pt.slots] at X259 l259 y259 z259 st259 hQ259
      subst l259 y259 z259
      obtain ⟨rfl, Nq259, eq259⟩ := hQ259
      have N259 := Fr.app N254 Nq259
      refine GoW.by st259 ?_
      show GoW _ _ _ _ _ _ _ (T259.setTop (mkF m 187 _ [(.ref b232)]))
      refine GoW.st (t' := T259.setTop (mkF m 196 #[.val (.int p0), .val (.int p1), .val (.int p2), .val (.int p3), .val (.int p4), .val (.int 1), .val (.int 1), .val (.int (((p3.toUInt32 >>> ((2 : Int32) &&& 31).toUInt32).toInt32) &&& (3 : Int32))), .val .null, .val (.ref w1), .val (.ref b213), .val (.ref b232)] [(.ref b213), (.ref b232)])) (fun target kt => ?_) ?_
      · refine XS.aload X259.here hx rfl (hb hby at_187) rfl rfl ?_
        refine Jvm.RoadKit.acmp (g := (mkF m 189 #[.val (.int p0), .val (.int p1), .val (.int p2), .val (.int p3), .val (.int p4), .val (.int 1), .val (.int 1), .val (.int (((p3.toUInt32 >>> ((2 : Int32) &&& 31).toUInt32).toInt32) &&& (3 : Int32))), .val .null, .val (.ref w1), .val (.ref b213), .val (.ref b232)] [(.ref b232), (.ref b232)])) X259 hx rfl rfl rfl (pc0 := 189) (pc' := 192) (same := true) rfl (hb hby at_189) rfl (decide_eq_true rfl) (by decide) (by decide) ?_
        refine XS.aload X259.here hx rfl (hb hby at_192) rfl rfl ?_
        refine XS.aload X259.here hx rfl (hb hby at_194) rfl rfl ?_
        exact kt
      have c260 := q219.keep Kq231
      have c261 := q220.keep Kq231 nin0
      have c262 := q221.keep Kq231 nin0
      have c263 := q222.keep Kq231 nin0
      have c264 := q223.keep Kq231 nin0
      have c265 := q224.keep Kq231 nin0
      obtain ⟨cq266, kq266, q266a, q266b, q266c⟩ := isOf hZ eq259 q234
      obtain ⟨_, _, ⟨T266, L266, k266, n266⟩, -, X266, ⟨Lc266, hQ266, l266, y266, z266⟩, st266⟩ := X259.virtualBack hx (y := (⟨"com/example/graphweave/graphweave/jsonld/ActiveContext", "term", "(Ljava/lang/String;)Lcom/example/graphweave/graphweave/jsonld/TermDefinition;"⟩ : MethodName)) (z := (⟨"com/example/graphweave/graphweave/jsonld/ActiveContext", "term", "(Ljava/lang/String;)Lcom/example/graphweave/graphweave/jsonld/TermDefinition;"⟩ : MethodName)) hown (mvT hZ (hw _ tw80)) (mvT hZ (hw _ tw81)) (notFace_of_selects (args := #[]) (mvT hZ (hw _ tw83))) (mvT hZ (hw _ tw83)) (mvT hZ (hw _ tw82)) (by decide) (backOf (W := 0) (rm11_r l Z a0 hw [] b232 b213 wcs wt wr b214 k215 i216 T231.heap n0 (Nat.le_trans Z0 K247.1) O248 S_CS hcs E_wt F_wt E_wr F_wr g226 q238 c260 c261 c262 c263 c264 c265) hZ (hw _ tw84) (hw _ tw31) (by decide) (by decide)) q266a q266c (g := (mkF m 196 #[.val (.int p0), .val (.int p1), .val (.int p2), .val (.int p3), .val (.int p4), .val (.int 1), .val (.int 1), .val (.int (((p3.toUInt32 >>> ((2 : Int32) &&& 31).toUInt32).toInt32) &&& (3 : Int32))), .val .null, .val (.ref w1), .val (.ref b213), .val (.ref b232)] [(.ref b213), (.ref b232)])) rfl (by rw [hml]; rfl) (Steps.refl _) (argsL := [(.ref b213)]) (rest := []) (lenOf pd15 rfl) rfl (by show 2 * 0 + _ ≤ _; exact Nat.le_of_eq rfl) (hb hby at_196) (fun _ _ => ⟨rfl, eq259, (by decide : 3 + 0 ≤ _), (by decide : 15 + 0 ≤ _)⟩)
      dsimp only [Pt.U, Pt.locs, Pt.cells, Pt.slots] at X266 l266 y266 z266 st266 hQ266
      subst l266 y266 z266
      obtain ⟨rfl, Nq266, Kq266⟩ := hQ266
      have N266 := Fr.app N259 Nq266
      have K267 := K247.trans Kq266 (allS (Or.inr sz225) all0)
      have O268 := O248.keep Kq266 (allS g226 all0)
      refine GoW.by st266 ?_
      show GoW _ _ _ _ _ _ _ (T266.setTop (mkF m 199 _ [.null]))
      refine GoW.st (t' := T266.setTop (mkF m 205 #[.val (.int p0), .val (.int p1), .val (.int p2), .val (.int p3), .val (.int p4), .val (.int 1), .val (.int 1), .val (.int (((p3.toUInt32 >>> ((2 : Int32) &&& 31).toUInt32).toInt32) &&& (3 : Int32))), .val .null, .val (.ref w1), .val (.ref b213), .val (.ref b232)] [.null, (.ref b232)])) (fun target kt => ?_) ?_
      · refine XS.ifnonnullNo X266.here hx rfl (hb hby at_199) rfl ?_
        refine XS.aload X266.here hx rfl (hb hby at_202) rfl rfl ?_
        refine XS.aconstNull X266.here hx rfl (hb hby at_204) ?_
        exact kt
      have c270 := q234.keep Kq266
      obtain ⟨cq269, kq269, q269a, q269b, q269c⟩ := isOf hZ rfl c270
      obtain ⟨_, _, ⟨T269, L269, k269, n269⟩, -, X269, ⟨Lc269, hQ269, l269, y269, z269⟩, st269⟩ := X266.virtualBack hx (y := (⟨"com/example/graphweave/graphweave/jsonld/ActiveContext", "term", "(Ljava/lang/String;)Lcom/example/graphweave/graphweave/jsonld/TermDefinition;"⟩ : MethodName)) (z := (⟨"com/example/graphweave/graphweave/jsonld/ActiveContext", "term", "(Ljava/lang/String;)Lcom/example/graphweave/graphweave/jsonld/TermDefinition;"⟩ : MethodName)) hown (mvT hZ (hw _ tw80)) (mvT hZ (hw _ tw81)) (notFace_of_selects (args := #[]) (mvT hZ (hw _ tw83))) (mvT hZ (hw _ tw83)) (mvT hZ (hw _ tw82)) (by decide) (backOf (W := 0) (rm11_n l Z a0 hw [] b232 T266.heap n0 (Nat.le_trans Z0 K267.1) O268  ) hZ (hw _ tw84) (hw _ tw31) (by decide) (by decide)) q269a q269c (g := (mkF m 205 #[.val (.int p0), .val (.int p1), .val (.int p2), .val (.int p3), .val (.int p4), .val (.int 1), .val (.int 1), .val (.int (((p3.toUInt32 >>> ((2 : Int32) &&& 31).toUInt32).toInt32) &&& (3 : Int32))), .val .null, .val (.ref w1), .val (.ref b213), .val (.ref b232)] [.null, (.ref b232)])) rfl (by rw [hml]; rfl) (Steps.refl _) (argsL := [.null]) (rest := []) (lenOf pd15 rfl) rfl (by show 2 * 0 + _ ≤ _; exact Nat.le_of_eq rfl) (hb hby at_205) (fun _ _ => ⟨rfl, rfl, (by decide : 3 + 0 ≤ _), (by decide : 15 + 0 ≤ _)⟩)
      dsimp only [Pt.U, Pt.locs, Pt.cells, Pt.slots] at X269 l269 y269 z269 st269 hQ269
      subst l269 y269 z269
      obtain ⟨rfl, Nq269, eq269⟩ := hQ269
      have N269 := Fr.app N266 Nq269
      refine GoW.by st269 ?_
      show GoW _ _ _ _ _ _ _ (T269.setTop (mkF m 208 _ [.null]))
      refine GoW.st (t' := T269.setTop (mkF m 216 #[.val (.int p0), .val (.int p1), .val (.int p2), .val (.int p3), .val (.int p4), .val (.int 1), .val (.int 1), .val (.int (((p3.toUInt32 >>> ((2 : Int32) &&& 31).toUInt32).toInt32) &&& (3 : Int32))), .val .null, .val (.ref w1), .val (.ref b213), .val (.ref b232)] [(.int 1)])) (fun target kt => ?_) ?_
      · refine XS.ifnonnullNo X269.here hx rfl (hb hby at_208) rfl ?_
        refine XS.iconst X269.here hx rfl (hb hby at_211) ?_
        refine XS.goto X269.here hx rfl (pc0 := 212) (pc' := 216) rfl (hb hby at_212) (by decide) (by decide) ?_
        exact kt
      refine GoW.ret X269 hSi (by rw [eq269]; exact (Nat.le_trans (Nat.zero_le _) (Nat.le_trans (Nat.le_trans Kq212.1 Kq231.1) Kq266.1))) (v := some (.int 1)) (fun h => by rw [hret] at h; cases h) hlk (fun fs hr => retN X269 hx (t := .boolean) hret (by simp) (hb hby at_216) hr) ?_ (by decide) (by decide)
      show Q0 Z p0 p1 p2 p3 p4 w0 w1 wt wr wcs h0 n0 _ T269.heap _
      rw [eq269]
      exact ⟨rfl, N269, K267⟩
theorem tw1 : (Jvm.Cond.initialized "com/example/graphweave/graphweave/jsonld/ProcessingMode") ∈ tables_1 := List.mem_of_getElem? (i := 1) rfl
theorem tw2 : (Jvm.Cond.laysStatic "com/example/graphweave/graphweave/jsonld/ProcessingMode" "JSON_LD_1_0" "Lcom/example/graphweave/graphweave/jsonld/ProcessingMode;") ∈ tables_1 := List.mem_of_getElem? (i := 2) rfl
theorem tw117 : (Jvm.Cond.laysStatic "com/example/graphweave/graphweave/jsonld/ProcessingMode" "JSON_LD_1_1" "Lcom/example/graphweave/graphweave/jsonld/ProcessingMode;") ∈ tables_1 := List.mem_of_getElem? (i := 117) rfl
theorem tw37 : (Jvm.Cond.laysStatic "com/example/graphweave/graphweave/jsonld/TermMap" "EMPTY" "Lcom/example/graphweave/graphweave/jsonld/TermMap;") ∈ tables_1 := List.mem_of_getElem? (i := 37) rfl
theorem comes_1 {Post : Tables → Env → Array Value → State → Outcome → State → Prop} (hpost : ∀ tb e args s v u, (limb_1_1.after args s (.returned v) u = true ∧ limb_1_2.after args s (.returned v) u = true ∧ True) → ReturnedEndW s (.returned v) u (Jvm.fieldLocs frame_1_writes args s ++ Jvm.arrayLocs frame_1_arrays args s ++ Jvm.staticLocs frame_1_statics s) 24 1152 → Post tb e args s (.returned v) u) :
    ArmFor flags0 classFile x code maxLocals ret World_1 tables_1 room_1 Calls_1 rest_1 Pre_1 Post := by
  intro l hfl _ _ p e ha hc hk s m args below hf hA hF happ hP
  obtain ⟨hcalls, hrest, hpre⟩ := hP
  obtain ⟨-, -, -, hnamed, -, -, -, hat⟩ := (Spec.applies_iff hf).mp happ
  obtain ⟨hg, hn⟩ := and_e (Cond.before_iff.mp (show (Jvm.Cond.and given_1 narrow_1).before args s = true from hpre))
  obtain ⟨g1, g2⟩ := and_e hg
  obtain ⟨g3, g4⟩ := and_e g2
  obtain ⟨g5, g6⟩ := and_e g4
  obtain ⟨g7, g8⟩ := and_e g6
  obtain ⟨g9, g10⟩ := and_e g8
  obtain ⟨w0_, w1_, w2_, w3_, w4_, rfl⟩ : ∃ w0_ w1_ w2_ w3_ w4_ : Value, args = #[w0_, w1_, w2_, w3_, w4_] := by
    have hs : args.size = 5 := by simpa [Cond.value, given_1] using g1
    obtain ⟨L⟩ := args
    match L, hs with
    | [w0_, w1_, w2_, w3_, w4_], _ => exact ⟨w0_, w1_, w2_, w3_, w4_, rfl⟩
  have hw := fun d (hd : d ∈ tables_1) => atoms_spec (ws := Jvm.Cond.code x code maxLocals ret :: tables_1) hat d (List.mem_cons_of_mem _ hd)
  have hfit : Fit s := fun {y c} hc i hi => by
    obtain ⟨ha, rfl⟩ := Array.getElem?_eq_some_iff.mp hc
    have q := List.all_eq_true.mp ((Array.all_eq_true_iff_forall_mem.mp hF) _ (Array.getElem_mem ha)) i (List.mem_range.mpr hi)
    simpa [Array.getElem?_eq_getElem hi] using q
  obtain ⟨hsets, hown0⟩ := atoms_of _ (rest_1_c_eq ▸ (show rest_1_c.before _ s = true from hrest))
  have hr0 := Cond.before_iff.mp hown0
  obtain ⟨i0, ei0⟩ := is_v g3
  obtain rfl : w0_ = (.int i0) := Option.some.inj ei0
  obtain ⟨i1, ei1⟩ := is_v g5
  obtain rfl : w1_ = (.int i1) := Option.some.inj ei1
  obtain ⟨i2, ei2⟩ := is_v g7
  obtain rfl : w2_ = (.int i2) := Option.some.inj ei2
  obtain ⟨i3, ei3⟩ := is_v g9
  obtain rfl : w3_ = (.int i3) := Option.some.inj ei3
  obtain ⟨i4, ei4⟩ := is_v g10
  obtain rfl : w4_ = (.int i4) := Option.some.inj ei4
  obtain ⟨n_a, hn⟩ := and_e hn
  obtain ⟨n_t, hn⟩ := and_e hn
  obtain ⟨n_r, hn⟩ := and_e hn
  obtain ⟨n_m, hn⟩ := and_e hn
  obtain ⟨n_b, hn⟩ := and_e hn
  obtain ⟨n_o1, n_o0⟩ := and_e hn
  obtain ⟨w0, ew0⟩ := exa_v n_a
  have E_w0 := Exa.start ew0 n_a
  have S_10 := Sta.start ew0 (Or.inr ⟨(hw _ tw1), (hw _ tw2)⟩)
  obtain ⟨w1, ew1⟩ := exa_v n_b
  have E_w1 := Exa.start ew1 n_b
  have S_11 := Sta.start ew1 (Or.inr ⟨(hw _ tw1), (hw _ tw117)⟩)
  have hpm : w1 ≠ w0 := by
    intro q
    subst q
    have q1 := own_eqi n_o1
    have q2 := own_eqi n_o0
    rw [fld_at ew1] at q1
    rw [fld_at ew0] at q2
    exact absurd (q1.symm.trans q2) (by simp)
  obtain ⟨wt, ewt⟩ := exa_v n_t
  have E_wt := Exa.start ewt n_t
  have S_EM := Sta.start ewt (Or.inr ⟨(hw _ tw36), (hw _ tw37)⟩)
  obtain ⟨wr, ewr⟩ := exa_v n_r
  have E_wr := Exa.start ewr n_r
  have F_wt := Fld.start ((fld_at ewt).symm.trans ewr)
  have F_wr := Fld.start ((fld_at ewr).symm.trans (own_eqi n_m))
  obtain ⟨wcs, ecs⟩ := is_v (Cond.before_iff.mp (hsets _ (List.mem_of_getElem? (i := 1) rfl)))
  have S_CS := Sta.start ecs (Or.inl (hsets _ (List.mem_of_getElem? (i := 0) rfl)))
  have hcs : ¬ (wcs = (0 : Int32)) := by
    intro q
    subst q
    have q1 := not_v (Cond.before_iff.mp (hsets _ (List.mem_of_getElem? (i := 2) rfl)))
    rw [eq_i ecs (Term.int_eval 0) rfl] at q1
    cases q1
  have hCH : CHv s EL0 s.vm s.heap := CHv.start (own_EL hw) (fun p hp => hcalls.1 p hp) (hsets _ (List.mem_of_getElem? (i := 2) rfl)) (hw _ tw17) (hw _ tw13)
  obtain ⟨n, o, h1, h2, h3, _, L, rfl, ⟨rfl, N, -⟩, hq⟩ := rm0 l s _ hw tables_1 i0 i1 i2 i3 i4 w0 w1 wt wr wcs s.heap s.heap.size (Nat.le_refl _) (Old.start s) S_10 S_11 hpm E_w0 E_w1 S_EM E_wt F_wt E_wr F_wr S_CS hcs p e ha hc hk s m _ below hf ((Spec.applies_iff_loose hf).mp happ).1 ⟨rfl, State.Warmed39.refl s, rfl, hCH, all0⟩ trivial
  refine ⟨n, _, h1, h2, h3, hpost _ _ _ _ _ _ ⟨Cond.after_iff.mpr rfl, Cond.after_iff.mpr (eq_i res_at (Term.int_eval (1)) rfl), trivial⟩ ⟨hq.1, hq.2.1, hq.2.2.1, (hq.2.2.2.sift fun y hy => Or.inr (N y hy)).mono (by decide) (by decide)⟩⟩
theorem main_1_1 : Claimed_1_1 := comes_1 fun _ _ _ _ _ _ h hF => ⟨h.1, hF⟩
theorem main_1_2 : Claimed_1_2 := comes_1 fun _ _ _ _ _ _ h hF => ⟨h.2.1, hF⟩
end Jvm.Pilot.@@N@@
/-! witness -/
namespace Jvm.Pilot.@@N@@
open Jvm Jvm.ClassFile Sem Op Lib Jvm.Free Jvm.Stand Jvm.Pilot.@@N@@.Jvm.D
/-! MADE BY PROGRAM (witnessworld.py) out of the Statement's table words and the real class files: 24 classes; the members and pool entries that the words name. The judged class is class 1, her method 1. -/
namespace start1
open Jvm.ClassFile
def u (s : String) : CpInfo := .utf8 (stringToUtf16 s)
/-- a pool by its gaps: so many unusable entries, then the entry; so many at the end -/
def gap : Nat → List CpInfo → List CpInfo
  | 0, r => r
  | n + 1, r => .unusable :: gap n r
def poolList (es : List (Nat × CpInfo)) (last : Nat) : List CpInfo := es.foldr (fun e r => gap e.1 (e.2 :: r)) (gap last [])
def pool (es : List (Nat × CpInfo)) (last : Nat) : Array CpInfo := ⟨poolList es last⟩
def fileOf (pool : Array CpInfo) (this : Nat) (attrs : Array Attribute := #[]) (ms : Array MethodInfo := #[]) (fl : Nat := 33) (sup : Nat := 0) (ifs : Array Nat := #[]) (fds : Array FieldInfo := #[]) : ClassFile where
  minorVersion := 0
  majorVersion := 65
  constantPool := pool
  accessFlags := fl
  thisClass := this
  superClass := sup
  interfaces := ifs
  fields := fds
  methods := ms
  attributes := attrs
def plain (name : String) (sup : Option ClassId) : Class where
  name := name
  kind := .ordinary
  loader := none
  accessFlags := 33
  super := sup
  interfaces := #[]
  cf := none
  fields := #[]
  methods := #[]
  instanceTypes := #[]
  staticTypes := #[]
  resolved := #[]
  callSites := []
  init := .initialized
  statics := none
  mirror := none

def pool0 : Array CpInfo := pool [(5, u "<init>"), (0, u "()V"), (1, .class_ 10), (1, u "java/lang/Object")] 113

def k0c0 : Code := { maxStack := 0, maxLocals := 1, code := object_method_1_code, exceptionTable := #[], attributes := #[] }
def k0m0 : Method := { name := "<init>", desc := "()V", sig := { parameters := [], returnType := none }, accessFlags := 1, code := some k0c0 }
/-- java/lang/Object -/
def k0 : Class := { plain "java/lang/Object" none with
  accessFlags := 33
  interfaces := #[]
  cf := some (fileOf pool0 8 #[] #[{ accessFlags := 1, nameIndex := 5, descriptorIndex := 6, attributes := #[] }] 33 0 #[] #[])
  fields := #[]
  methods := #[k0m0]
  instanceTypes := #[]
  staticTypes := #[]
  resolved := Array.replicate 124 none
  statics := none }

def pool1 : Array CpInfo := pool [(2, .class_ 4), (1, u "java/lang/Object"), (0, u "<init>"), (0, u "()V"), (0, .methodref 8 9), (0, .class_ 10), (0, .nameAndType 11 12), (0, u "com/example/graphweave/graphweave/jsonld/ActiveContextInitialPinLaw"), (0, u "str"), (0, u "(IIII)Ljava/lang/String;"), (0, .fieldref 14 15), (0, .class_ 16), (0, .nameAndType 17 18), (0, u "com/example/graphweave/graphweave/jsonld/ProcessingMode"), (0, u "JSON_LD_1_1"), (0, u "Lcom/example/graphweave/graphweave/jsonld/ProcessingMode;"), (0, .fieldref 14 20), (0, .nameAndType 21 18), (0, u "JSON_LD_1_0"), (0, .methodref 23 24), (0, .class_ 25), (0, .nameAndType 26 27), (0, u "java/lang/String"), (0, u "valueOf"), (0, u "(C)Ljava/lang/String;"), (0, .methodref 29 30), (0, .class_ 31), (0, .nameAndType 32 33), (0, u "com/example/graphweave/graphweave/jsonld/ActiveContext"), (0, u "initial"), (0, u "(Ljava/lang/String;Lcom/example/graphweave/graphweave/jsonld/ProcessingMode;)Lcom/example/graphweave/graphweave/jsonld/ActiveContext;"), (0, .fieldref 29 35), (0, .nameAndType 36 37), (0, u "originalBaseUrl"), (0, u "Ljava/lang/String;"), (0, .methodref 8 39), (0, .nameAndType 40 41), (0, u "same"), (0, u "(Ljava/lang/String;Ljava/lang/String;)Z"), (0, .fieldref 29 43), (0, .nameAndType 44 37), (0, u "baseIri"), (0, .fieldref 29 46), (0, .nameAndType 47 18), (0, u "processingMode"), (0, .methodref 29 49), (0, .nameAndType 50 51), (0, u "isJsonLd10"), (0, u "()Z"), (0, .fieldref 29 53), (0, .nameAndType 54 37), (0, u "vocab"), (0, .fieldref 29 56), (0, .nameAndType 57 37), (0, u "defaultLanguage"), (0, .fieldref 29 59), (0, .nameAndType 60 37), (0, u "defaultDirection"), (0, .fieldref 29 62), (0, .nameAndType 63 64), (0, u "previousContext"), (0, u "Lcom/example/graphweave/graphweave/jsonld/ActiveContext;"), (0, .methodref 29 66), (0, .nameAndType 67 68), (0, u "processed"), (0, u "()Lcom/example/graphweave/graphweave/jsonld/ActiveContext;"), (0, .methodref 29 70), (0, .nameAndType 71 72), (0, u "term"), (0, u "(Ljava/lang/String;)Lcom/example/graphweave/graphweave/jsonld/TermDefinition;"), (0, .methodref 23 74), (0, .nameAndType 75 76), (0, u "equals"), (0, u "(Ljava/lang/Object;)Z"), (0, .methodref 23 78), (0, .nameAndType 5 79), (0, u "([C)V"), (2, u "law"), (0, u "(IIIII)Z")] 3

def k1m0 : Method := { name := "<init>", desc := "()V", sig := { parameters := [], returnType := none }, accessFlags := 1, code := none }
def k1c1 : Code := { maxStack := 4, maxLocals := 12, code := code, exceptionTable := #[], attributes := #[] }
def k1m1 : Method := { name := "law", desc := "(IIIII)Z", sig := { parameters := [.int, .int, .int, .int, .int], returnType := some .boolean }, accessFlags := 9, code := some k1c1 }
def k1c2 : Code := { maxStack := 2, maxLocals := 2, code := method_3_code, exceptionTable := #[], attributes := #[] }
def k1m2 : Method := { name := "same", desc := "(Ljava/lang/String;Ljava/lang/String;)Z", sig := { parameters := [(.object "java/lang/String"), (.object "java/lang/String")], returnType := some .boolean }, accessFlags := 10, code := some k1c2 }
def k1c3 : Code := { maxStack := 6, maxLocals := 7, code := method_4_code, exceptionTable := #[], attributes := #[] }
def k1m3 : Method := { name := "str", desc := "(IIII)Ljava/lang/String;", sig := { parameters := [.int, .int, .int, .int], returnType := some (.object "java/lang/String") }, accessFlags := 10, code := some k1c3 }
/-- com/example/graphweave/graphweave/jsonld/ActiveContextInitialPinLaw -/
def k1 : Class := { plain "com/example/graphweave/graphweave/jsonld/ActiveContextInitialPinLaw" (some 0) with
  accessFlags := 49
  interfaces := #[]
  cf := some (fileOf pool1 8 #[] #[{ accessFlags := 1, nameIndex := 5, descriptorIndex := 6, attributes := #[] }, { accessFlags := 9, nameIndex := 82, descriptorIndex := 83, attributes := #[] }, { accessFlags := 10, nameIndex := 40, descriptorIndex := 41, attributes := #[] }, { accessFlags := 10, nameIndex := 11, descriptorIndex := 12, attributes := #[] }] 49 2 #[] #[])
  fields := #[]
  methods := #[k1m0, k1m1, k1m2, k1m3]
  instanceTypes := #[]
  staticTypes := #[]
  resolved := Array.replicate 87 none
  statics := none }

def pool2 : Array CpInfo := pool [(1, .class_ 2), (0, u "java/lang/constant/Constable"), (0, .class_ 4), (0, u "java/lang/Object")] 6

/-- java/lang/constant/Constable -/
def k2 : Class := { plain "java/lang/constant/Constable" (some 0) with
  accessFlags := 1537
  interfaces := #[]
  cf := some (fileOf pool2 1 #[] #[] 1537 3 #[] #[])
  fields := #[]
  methods := #[]
  instanceTypes := #[]
  staticTypes := #[]
  resolved := Array.replicate 11 none
  statics := none }

def pool3 : Array CpInfo := pool [(1, .class_ 2), (0, u "java/lang/Comparable"), (0, .class_ 4), (0, u "java/lang/Object")] 7

/-- java/lang/Comparable -/
def k3 : Class := { plain "java/lang/Comparable" (some 0) with
  accessFlags := 1537
  interfaces := #[]
  cf := some (fileOf pool3 1 #[] #[] 1537 3 #[] #[])
  fields := #[]
  methods := #[]
  instanceTypes := #[]
  staticTypes := #[]
  resolved := Array.replicate 12 none
  statics := none }

def pool4 : Array CpInfo := pool [(1, .class_ 2), (0, u "java/io/Serializable"), (0, .class_ 4), (0, u "java/lang/Object")] 2

/-- java/io/Serializable -/
def k4 : Class := { plain "java/io/Serializable" (some 0) with
  accessFlags := 1537
  interfaces := #[]
  cf := some (fileOf pool4 1 #[] #[] 1537 3 #[] #[])
  fields := #[]
  methods := #[]
  instanceTypes := #[]
  staticTypes := #[]
  resolved := Array.replicate 7 none
  statics := none }

def pool5 : Array CpInfo := pool [(2, .class_ 4), (1, u "java/lang/Enum"), (0, u "name"), (0, u "Ljava/lang/String;"), (2, u "ordinal"), (0, u "I"), (1, .class_ 14), (1, u "java/lang/Object"), (4, u "hash"), (86, .class_ 108), (1, u "java/lang/Enum$EnumDesc"), (2, .class_ 112), (0, u "java/lang/constant/Constable"), (0, .class_ 114), (0, u "java/lang/Comparable"), (0, .class_ 116), (0, u "java/io/Serializable")] 87

/-- java/lang/Enum -/
def k5 : Class := { plain "java/lang/Enum" (some 0) with
  accessFlags := 1057
  interfaces := #[2, 3, 4]
  cf := some (fileOf pool5 2 #[.nestMembers #[106]] #[] 1057 12 #[111, 113, 115] #[{ accessFlags := 18, nameIndex := 5, descriptorIndex := 6, attributes := #[] }, { accessFlags := 18, nameIndex := 9, descriptorIndex := 10, attributes := #[] }, { accessFlags := 2, nameIndex := 19, descriptorIndex := 10, attributes := #[] }])
  fields := #[{ name := "name", type := (.object "java/lang/String"), accessFlags := 18, slot := 0, constantValue := 0 }, { name := "ordinal", type := .int, accessFlags := 18, slot := 1, constantValue := 0 }, { name := "hash", type := .int, accessFlags := 2, slot := 2, constantValue := 0 }]
  methods := #[]
  instanceTypes := #[(.object "java/lang/String"), .int, .int]
  staticTypes := #[]
  resolved := Array.replicate 204 none
  statics := none }

def pool6 : Array CpInfo := pool [(1, .class_ 2), (0, u "com/example/graphweave/graphweave/jsonld/ProcessingMode"), (2, u "JSON_LD_1_0"), (0, u "Lcom/example/graphweave/graphweave/jsonld/ProcessingMode;"), (2, u "JSON_LD_1_1"), (2, u "$VALUES"), (0, u "[Lcom/example/graphweave/graphweave/jsonld/ProcessingMode;"), (6, .class_ 22), (1, u "java/lang/Enum"), (8, u "spelling"), (0, u "Ljava/lang/String;")] 60

/-- com/example/graphweave/graphweave/jsonld/ProcessingMode -/
def k6 : Class := { plain "com/example/graphweave/graphweave/jsonld/ProcessingMode" (some 5) with
  accessFlags := 16433
  interfaces := #[]
  cf := some (fileOf pool6 1 #[] #[] 16433 20 #[] #[{ accessFlags := 16409, nameIndex := 5, descriptorIndex := 6, attributes := #[] }, { accessFlags := 16409, nameIndex := 9, descriptorIndex := 6, attributes := #[] }, { accessFlags := 18, nameIndex := 31, descriptorIndex := 32, attributes := #[] }, { accessFlags := 4122, nameIndex := 12, descriptorIndex := 13, attributes := #[] }])
  fields := #[{ name := "JSON_LD_1_0", type := (.object "com/example/graphweave/graphweave/jsonld/ProcessingMode"), accessFlags := 16409, slot := 0, constantValue := 0 }, { name := "JSON_LD_1_1", type := (.object "com/example/graphweave/graphweave/jsonld/ProcessingMode"), accessFlags := 16409, slot := 1, constantValue := 0 }, { name := "spelling", type := (.object "java/lang/String"), accessFlags := 18, slot := 3, constantValue := 0 }, { name := "$VALUES", type := (.array (.object "com/example/graphweave/graphweave/jsonld/ProcessingMode")), accessFlags := 4122, slot := 2, constantValue := 0 }]
  methods := #[]
  instanceTypes := #[(.object "java/lang/String"), .int, .int, (.object "java/lang/String")]
  staticTypes := #[(.object "com/example/graphweave/graphweave/jsonld/ProcessingMode"), (.object "com/example/graphweave/graphweave/jsonld/ProcessingMode"), (.array (.object "com/example/graphweave/graphweave/jsonld/ProcessingMode"))]
  resolved := Array.replicate 93 none
  statics := some 0 }

def pool7 : Array CpInfo := pool [(2, .class_ 4), (1, u "java/lang/CharSequence"), (42, .class_ 48), (0, u "java/lang/CharSequence$1CodePointIterator"), (10, .class_ 60), (0, u "java/lang/CharSequence$1CharIterator"), (5, .class_ 67), (0, u "java/lang/Object")] 63

/-- java/lang/CharSequence -/
def k7 : Class := { plain "java/lang/CharSequence" (some 0) with
  accessFlags := 1537
  interfaces := #[]
  cf := some (fileOf pool7 2 #[.nestMembers #[47, 59]] #[] 1537 66 #[] #[])
  fields := #[]
  methods := #[]
  instanceTypes := #[]
  staticTypes := #[]
  resolved := Array.replicate 131 none
  statics := none }

def pool8 : Array CpInfo := pool [(1, .class_ 2), (0, u "java/lang/constant/ConstantDesc"), (0, .class_ 4), (0, u "java/lang/Object")] 32

/-- java/lang/constant/ConstantDesc -/
def k8 : Class := { plain "java/lang/constant/ConstantDesc" (some 0) with
  accessFlags := 1537
  interfaces := #[]
  cf := some (fileOf pool8 1 #[] #[] 1537 3 #[] #[])
  fields := #[]
  methods := #[]
  instanceTypes := #[]
  staticTypes := #[]
  resolved := Array.replicate 37 none
  statics := none }

def pool9 : Array CpInfo := pool [(1, .methodref 2 3), (0, .class_ 4), (0, .nameAndType 5 6), (0, u "java/lang/Object"), (0, u "<init>"), (0, u "()V"), (0, .string 8), (0, u ""), (0, .fieldref 10 11), (0, .class_ 12), (0, .nameAndType 13 14), (0, u "java/lang/String"), (0, u "value"), (0, u "[B"), (0, .fieldref 10 16), (0, .nameAndType 17 18), (0, u "coder"), (0, u "B"), (0, .fieldref 10 20), (0, .nameAndType 21 22), (0, u "hash"), (0, u "I"), (0, .fieldref 10 24), (0, .nameAndType 25 26), (0, u "hashIsZero"), (0, u "Z"), (0, .methodref 10 28), (0, .nameAndType 5 29), (0, u "([CIILjava/lang/Void;)V"), (8, .fieldref 10 39), (0, .nameAndType 40 26), (0, u "COMPACT_STRINGS"), (1, .class_ 44), (1, u "java/lang/StringUTF16"), (0, u "compress"), (1, .methodref 42 48), (0, .nameAndType 49 50), (0, u "coderFromArrayLen"), (0, u "([BI)B"), (2, u "toBytes"), (53, .class_ 109), (1, u "java/lang/StringLatin1"), (32, u "()Z"), (34, .methodref 42 178), (0, .nameAndType 45 179), (0, u "([CII)[B"), (29, .methodref 10 210), (0, .nameAndType 5 211), (0, u "([BB)V"), (122, u "()I"), (34, u "(C)Z"), (122, .methodref 10 493), (0, .nameAndType 494 142), (0, u "isLatin1"), (48, u "equals"), (29, u "(Ljava/lang/Object;)Z"), (1, .class_ 576), (0, u "java/lang/CharSequence"), (22, u "CASE_INSENSITIVE_ORDER"), (0, u "Ljava/util/Comparator;"), (27, .methodref 107 629), (0, .nameAndType 630 631), (0, u "hashCode"), (0, u "([B)I"), (150, u "valueOf"), (0, u "(C)Ljava/lang/String;"), (226, u "([C)V"), (4, .methodref 107 1016), (0, .nameAndType 1017 369), (0, u "canEncode"), (0, .methodref 107 1019), (0, .nameAndType 53 1020), (0, u "(C)[B"), (80, u "serialPersistentFields"), (0, u "[Ljava/io/ObjectStreamField;"), (0, .class_ 1104), (0, u "java/lang/String$CaseInsensitiveComparator"), (1, .class_ 1107), (0, u "java/io/Serializable"), (0, .class_ 1109), (0, u "java/lang/Comparable"), (0, .class_ 1111), (0, u "java/lang/constant/Constable"), (0, .class_ 1113), (0, u "java/lang/constant/ConstantDesc"), (2, u "serialVersionUID"), (0, u "J"), (3, u "REPL"), (0, u "C"), (2, u "LATIN1"), (1, u "UTF16")] 323

def k9m0 : Method := { name := "<init>", desc := "()V", sig := { parameters := [], returnType := none }, accessFlags := 1, code := none }
def k9c1 : Code := { maxStack := 5, maxLocals := 2, code := jdk_42_method_3_code, exceptionTable := #[], attributes := #[] }
def k9m1 : Method := { name := "<init>", desc := "([C)V", sig := { parameters := [(.array .char)], returnType := none }, accessFlags := 1, code := some k9c1 }
def k9c2 : Code := { maxStack := 2, maxLocals := 3, code := jdk_42_method_66_code, exceptionTable := #[], attributes := #[] }
def k9m2 : Method := { name := "equals", desc := "(Ljava/lang/Object;)Z", sig := { parameters := [(.object "java/lang/Object")], returnType := some .boolean }, accessFlags := 1, code := some k9c2 }
def k9c3 : Code := { maxStack := 2, maxLocals := 2, code := jdk_42_method_78_code, exceptionTable := #[], attributes := #[] }
def k9m3 : Method := { name := "hashCode", desc := "()I", sig := { parameters := [], returnType := some .int }, accessFlags := 1, code := some k9c3 }
def k9c4 : Code := { maxStack := 4, maxLocals := 1, code := jdk_42_method_139_code, exceptionTable := #[], attributes := #[] }
def k9m4 : Method := { name := "valueOf", desc := "(C)Ljava/lang/String;", sig := { parameters := [.char], returnType := some (.object "java/lang/String") }, accessFlags := 9, code := some k9c4 }
def k9c5 : Code := { maxStack := 4, maxLocals := 6, code := jdk_42_method_149_code, exceptionTable := #[], attributes := #[] }
def k9m5 : Method := { name := "<init>", desc := "([CIILjava/lang/Void;)V", sig := { parameters := [(.array .char), .int, .int, (.object "java/lang/Void")], returnType := none }, accessFlags := 2, code := some k9c5 }
def k9c6 : Code := { maxStack := 2, maxLocals := 3, code := jdk_42_method_151_code, exceptionTable := #[], attributes := #[] }
def k9m6 : Method := { name := "<init>", desc := "([BB)V", sig := { parameters := [(.array .byte), .byte], returnType := none }, accessFlags := 0, code := some k9c6 }
def k9c7 : Code := { maxStack := 1, maxLocals := 1, code := jdk_42_method_154_code, exceptionTable := #[], attributes := #[] }
def k9m7 : Method := { name := "isLatin1", desc := "()Z", sig := { parameters := [], returnType := some .boolean }, accessFlags := 0, code := some k9c7 }
/-- java/lang/String -/
def k9 : Class := { plain "java/lang/String" (some 0) with
  accessFlags := 49
  interfaces := #[4, 3, 7, 2, 8]
  cf := some (fileOf pool9 10 #[.nestMembers #[1103]] #[{ accessFlags := 1, nameIndex := 5, descriptorIndex := 6, attributes := #[] }, { accessFlags := 1, nameIndex := 5, descriptorIndex := 1010, attributes := #[] }, { accessFlags := 1, nameIndex := 543, descriptorIndex := 573, attributes := #[] }, { accessFlags := 1, nameIndex := 630, descriptorIndex := 334, attributes := #[] }, { accessFlags := 9, nameIndex := 782, descriptorIndex := 783, attributes := #[] }, { accessFlags := 2, nameIndex := 5, descriptorIndex := 29, attributes := #[] }, { accessFlags := 0, nameIndex := 5, descriptorIndex := 211, attributes := #[] }, { accessFlags := 0, nameIndex := 494, descriptorIndex := 142, attributes := #[] }] 49 2 #[1106, 1108, 575, 1110, 1112] #[{ accessFlags := 18, nameIndex := 13, descriptorIndex := 14, attributes := #[] }, { accessFlags := 18, nameIndex := 17, descriptorIndex := 18, attributes := #[] }, { accessFlags := 2, nameIndex := 21, descriptorIndex := 22, attributes := #[] }, { accessFlags := 2, nameIndex := 25, descriptorIndex := 26, attributes := #[] }, { accessFlags := 26, nameIndex := 1116, descriptorIndex := 1117, attributes := #[] }, { accessFlags := 24, nameIndex := 40, descriptorIndex := 26, attributes := #[] }, { accessFlags := 26, nameIndex := 1101, descriptorIndex := 1102, attributes := #[] }, { accessFlags := 26, nameIndex := 1121, descriptorIndex := 1122, attributes := #[] }, { accessFlags := 25, nameIndex := 599, descriptorIndex := 600, attributes := #[] }, { accessFlags := 24, nameIndex := 1125, descriptorIndex := 18, attributes := #[] }, { accessFlags := 24, nameIndex := 1127, descriptorIndex := 18, attributes := #[] }])
  fields := #[{ name := "value", type := (.array .byte), accessFlags := 18, slot := 0, constantValue := 0 }, { name := "coder", type := .byte, accessFlags := 18, slot := 1, constantValue := 0 }, { name := "hash", type := .int, accessFlags := 2, slot := 2, constantValue := 0 }, { name := "hashIsZero", type := .boolean, accessFlags := 2, slot := 3, constantValue := 0 }, { name := "serialVersionUID", type := .long, accessFlags := 26, slot := 0, constantValue := 0 }, { name := "COMPACT_STRINGS", type := .boolean, accessFlags := 24, slot := 1, constantValue := 0 }, { name := "serialPersistentFields", type := (.array (.object "java/io/ObjectStreamField")), accessFlags := 26, slot := 2, constantValue := 0 }, { name := "REPL", type := .char, accessFlags := 26, slot := 3, constantValue := 0 }, { name := "CASE_INSENSITIVE_ORDER", type := (.object "java/util/Comparator"), accessFlags := 25, slot := 4, constantValue := 0 }, { name := "LATIN1", type := .byte, accessFlags := 24, slot := 5, constantValue := 0 }, { name := "UTF16", type := .byte, accessFlags := 24, slot := 6, constantValue := 0 }]
  methods := #[k9m0, k9m1, k9m2, k9m3, k9m4, k9m5, k9m6, k9m7]
  instanceTypes := #[(.array .byte), .byte, .int, .boolean]
  staticTypes := #[.long, .boolean, (.array (.object "java/io/ObjectStreamField")), .char, (.object "java/util/Comparator"), .byte, .byte]
  resolved := Array.replicate 1451 none
  statics := some 1 }

def pool10 : Array CpInfo := pool [(4, .class_ 6), (1, u "java/lang/Object"), (0, u "<init>"), (0, u "()V"), (5, .class_ 16), (1, u "java/lang/StringLatin1"), (40, u "([B)I"), (32, u "canEncode"), (14, u "(C)Z"), (15, u "$assertionsDisabled"), (0, u "Z"), (98, .class_ 223), (1, u "java/lang/StringLatin1$LinesSpliterator"), (74, u "hashCode"), (81, u "toBytes"), (1, u "(C)[B"), (7, .class_ 391), (0, u "java/lang/StringLatin1$CharsSpliterator")] 3

def k10m0 : Method := { name := "<init>", desc := "()V", sig := { parameters := [], returnType := none }, accessFlags := 0, code := none }
def k10c1 : Code := { maxStack := 2, maxLocals := 1, code := jdk_43_method_3_code, exceptionTable := #[], attributes := #[] }
def k10m1 : Method := { name := "canEncode", desc := "(C)Z", sig := { parameters := [.char], returnType := some .boolean }, accessFlags := 9, code := some k10c1 }
def k10c2 : Code := { maxStack := 5, maxLocals := 1, code := jdk_43_method_21_code, exceptionTable := #[], attributes := #[] }
def k10m2 : Method := { name := "hashCode", desc := "([B)I", sig := { parameters := [(.array .byte)], returnType := some .int }, accessFlags := 9, code := some k10c2 }
def k10c3 : Code := { maxStack := 4, maxLocals := 1, code := jdk_43_method_46_code, exceptionTable := #[], attributes := #[] }
def k10m3 : Method := { name := "toBytes", desc := "(C)[B", sig := { parameters := [.char], returnType := some (.array .byte) }, accessFlags := 9, code := some k10c3 }
/-- java/lang/StringLatin1 -/
def k10 : Class := { plain "java/lang/StringLatin1" (some 0) with
  accessFlags := 48
  interfaces := #[]
  cf := some (fileOf pool10 14 #[.nestMembers #[390, 221]] #[{ accessFlags := 0, nameIndex := 7, descriptorIndex := 8, attributes := #[] }, { accessFlags := 9, nameIndex := 90, descriptorIndex := 105, attributes := #[] }, { accessFlags := 9, nameIndex := 298, descriptorIndex := 57, attributes := #[] }, { accessFlags := 9, nameIndex := 380, descriptorIndex := 382, attributes := #[] }] 48 4 #[] #[{ accessFlags := 4120, nameIndex := 121, descriptorIndex := 122, attributes := #[] }])
  fields := #[{ name := "$assertionsDisabled", type := .boolean, accessFlags := 4120, slot := 0, constantValue := 0 }]
  methods := #[k10m0, k10m1, k10m2, k10m3]
  instanceTypes := #[]
  staticTypes := #[.boolean]
  resolved := Array.replicate 395 none
  statics := none }

def pool11 : Array CpInfo := pool [(1, .methodref 2 3), (0, .class_ 4), (0, .nameAndType 5 6), (0, u "java/lang/Object"), (0, u "<init>"), (0, u "()V"), (0, .fieldref 8 9), (0, .class_ 10), (0, .nameAndType 11 12), (0, u "com/example/graphweave/graphweave/jsonld/ActiveContext"), (0, u "originalBaseUrl"), (0, u "Ljava/lang/String;"), (0, .fieldref 8 14), (0, .nameAndType 15 16), (0, u "processingMode"), (0, u "Lcom/example/graphweave/graphweave/jsonld/ProcessingMode;"), (0, .fieldref 8 18), (0, .nameAndType 19 12), (0, u "baseIri"), (0, .fieldref 8 21), (0, .nameAndType 22 23), (0, u "terms"), (0, u "Lcom/example/graphweave/graphweave/jsonld/TermMap;"), (0, .fieldref 8 25), (0, .nameAndType 26 27), (0, u "processed"), (0, u "Lcom/example/graphweave/graphweave/jsonld/ActiveContext;"), (0, .fieldref 8 29), (0, .nameAndType 30 31), (0, u "placement"), (0, u "Lcom/example/graphweave/graphweave/jsonld/Location$Placement;"), (0, .fieldref 33 34), (0, .class_ 35), (0, .nameAndType 36 23), (0, u "com/example/graphweave/graphweave/jsonld/TermMap"), (0, u "EMPTY"), (0, .methodref 8 38), (0, .nameAndType 5 39), (0, u "(Ljava/lang/String;Lcom/example/graphweave/graphweave/jsonld/ProcessingMode;Lcom/example/graphweave/graphweave/jsonld/TermMap;Lcom/example/graphweave/graphweave/jsonld/ActiveContext;Lcom/example/graphweave/graphweave/jsonld/Location$Placement;)V"), (2, u "initial"), (0, u "(Ljava/lang/String;Lcom/example/graphweave/graphweave/jsonld/ProcessingMode;)Lcom/example/graphweave/graphweave/jsonld/ActiveContext;"), (0, .fieldref 45 46), (0, .class_ 47), (0, .nameAndType 48 16), (0, u "com/example/graphweave/graphweave/jsonld/ProcessingMode"), (0, u "JSON_LD_1_0"), (2, u "isJsonLd10"), (0, u "()Z"), (17, u "vocab"), (2, u "defaultLanguage"), (2, u "defaultDirection"), (2, u "previousContext"), (0, .class_ 81), (0, u "com/example/graphweave/graphweave/jsonld/ActiveContext$Content"), (26, .methodref 33 109), (0, .nameAndType 110 111), (0, u "get"), (0, u "(Ljava/lang/String;)Lcom/example/graphweave/graphweave/jsonld/TermDefinition;"), (10, u "NOTHING_PENDING"), (0, u "Ljava/util/function/Consumer;"), (73, u "()Lcom/example/graphweave/graphweave/jsonld/ActiveContext;"), (10, u "term")] 49

def k11c0 : Code := { maxStack := 2, maxLocals := 6, code := prog_28_method_1_code, exceptionTable := #[], attributes := #[] }
def k11m0 : Method := { name := "<init>", desc := "(Ljava/lang/String;Lcom/example/graphweave/graphweave/jsonld/ProcessingMode;Lcom/example/graphweave/graphweave/jsonld/TermMap;Lcom/example/graphweave/graphweave/jsonld/ActiveContext;Lcom/example/graphweave/graphweave/jsonld/Location$Placement;)V", sig := { parameters := [(.object "java/lang/String"), (.object "com/example/graphweave/graphweave/jsonld/ProcessingMode"), (.object "com/example/graphweave/graphweave/jsonld/TermMap"), (.object "com/example/graphweave/graphweave/jsonld/ActiveContext"), (.object "com/example/graphweave/graphweave/jsonld/Location$Placement")], returnType := none }, accessFlags := 2, code := some k11c0 }
def k11c1 : Code := { maxStack := 7, maxLocals := 2, code := prog_28_method_2_code, exceptionTable := #[], attributes := #[] }
def k11m1 : Method := { name := "initial", desc := "(Ljava/lang/String;Lcom/example/graphweave/graphweave/jsonld/ProcessingMode;)Lcom/example/graphweave/graphweave/jsonld/ActiveContext;", sig := { parameters := [(.object "java/lang/String"), (.object "com/example/graphweave/graphweave/jsonld/ProcessingMode")], returnType := some (.object "com/example/graphweave/graphweave/jsonld/ActiveContext") }, accessFlags := 8, code := some k11c1 }
def k11c2 : Code := { maxStack := 2, maxLocals := 1, code := prog_28_method_4_code, exceptionTable := #[], attributes := #[] }
def k11m2 : Method := { name := "isJsonLd10", desc := "()Z", sig := { parameters := [], returnType := some .boolean }, accessFlags := 0, code := some k11c2 }
def k11c3 : Code := { maxStack := 1, maxLocals := 1, code := prog_28_method_7_code, exceptionTable := #[], attributes := #[] }
def k11m3 : Method := { name := "processed", desc := "()Lcom/example/graphweave/graphweave/jsonld/ActiveContext;", sig := { parameters := [], returnType := some (.object "com/example/graphweave/graphweave/jsonld/ActiveContext") }, accessFlags := 0, code := some k11c3 }
def k11c4 : Code := { maxStack := 2, maxLocals := 2, code := prog_28_method_13_code, exceptionTable := #[], attributes := #[] }
def k11m4 : Method := { name := "term", desc := "(Ljava/lang/String;)Lcom/example/graphweave/graphweave/jsonld/TermDefinition;", sig := { parameters := [(.object "java/lang/String")], returnType := some (.object "com/example/graphweave/graphweave/jsonld/TermDefinition") }, accessFlags := 0, code := some k11c4 }
/-- com/example/graphweave/graphweave/jsonld/ActiveContext -/
def k11 : Class := { plain "com/example/graphweave/graphweave/jsonld/ActiveContext" (some 0) with
  accessFlags := 48
  interfaces := #[]
  cf := some (fileOf pool11 8 #[.nestMembers #[80]] #[{ accessFlags := 2, nameIndex := 5, descriptorIndex := 39, attributes := #[] }, { accessFlags := 8, nameIndex := 42, descriptorIndex := 43, attributes := #[] }, { accessFlags := 0, nameIndex := 51, descriptorIndex := 52, attributes := #[] }, { accessFlags := 0, nameIndex := 26, descriptorIndex := 197, attributes := #[] }, { accessFlags := 0, nameIndex := 208, descriptorIndex := 111, attributes := #[] }] 48 2 #[] #[{ accessFlags := 26, nameIndex := 122, descriptorIndex := 123, attributes := #[] }, { accessFlags := 16, nameIndex := 11, descriptorIndex := 12, attributes := #[] }, { accessFlags := 16, nameIndex := 15, descriptorIndex := 16, attributes := #[] }, { accessFlags := 0, nameIndex := 19, descriptorIndex := 12, attributes := #[] }, { accessFlags := 0, nameIndex := 70, descriptorIndex := 12, attributes := #[] }, { accessFlags := 0, nameIndex := 73, descriptorIndex := 12, attributes := #[] }, { accessFlags := 0, nameIndex := 76, descriptorIndex := 12, attributes := #[] }, { accessFlags := 2, nameIndex := 22, descriptorIndex := 23, attributes := #[] }, { accessFlags := 0, nameIndex := 79, descriptorIndex := 27, attributes := #[] }, { accessFlags := 18, nameIndex := 26, descriptorIndex := 27, attributes := #[] }, { accessFlags := 18, nameIndex := 30, descriptorIndex := 31, attributes := #[] }])
  fields := #[{ name := "NOTHING_PENDING", type := (.object "java/util/function/Consumer"), accessFlags := 26, slot := 0, constantValue := 0 }, { name := "originalBaseUrl", type := (.object "java/lang/String"), accessFlags := 16, slot := 0, constantValue := 0 }, { name := "processingMode", type := (.object "com/example/graphweave/graphweave/jsonld/ProcessingMode"), accessFlags := 16, slot := 1, constantValue := 0 }, { name := "baseIri", type := (.object "java/lang/String"), accessFlags := 0, slot := 2, constantValue := 0 }, { name := "vocab", type := (.object "java/lang/String"), accessFlags := 0, slot := 3, constantValue := 0 }, { name := "defaultLanguage", type := (.object "java/lang/String"), accessFlags := 0, slot := 4, constantValue := 0 }, { name := "defaultDirection", type := (.object "java/lang/String"), accessFlags := 0, slot := 5, constantValue := 0 }, { name := "terms", type := (.object "com/example/graphweave/graphweave/jsonld/TermMap"), accessFlags := 2, slot := 6, constantValue := 0 }, { name := "previousContext", type := (.object "com/example/graphweave/graphweave/jsonld/ActiveContext"), accessFlags := 0, slot := 7, constantValue := 0 }, { name := "processed", type := (.object "com/example/graphweave/graphweave/jsonld/ActiveContext"), accessFlags := 18, slot := 8, constantValue := 0 }, { name := "placement", type := (.object "com/example/graphweave/graphweave/jsonld/Location$Placement"), accessFlags := 18, slot := 9, constantValue := 0 }]
  methods := #[k11m0, k11m1, k11m2, k11m3, k11m4]
  instanceTypes := #[(.object "java/lang/String"), (.object "com/example/graphweave/graphweave/jsonld/ProcessingMode"), (.object "java/lang/String"), (.object "java/lang/String"), (.object "java/lang/String"), (.object "java/lang/String"), (.object "com/example/graphweave/graphweave/jsonld/TermMap"), (.object "com/example/graphweave/graphweave/jsonld/ActiveContext"), (.object "com/example/graphweave/graphweave/jsonld/ActiveContext"), (.object "com/example/graphweave/graphweave/jsonld/Location$Placement")]
  staticTypes := #[(.object "java/util/function/Consumer")]
  resolved := Array.replicate 258 none
  statics := none }

def pool12 : Array CpInfo := pool [(1, .class_ 2), (0, u "com/example/graphweave/graphweave/jsonld/TermMap"), (1, .class_ 6), (1, u "java/lang/Object"), (2, .fieldref 1 10), (0, .nameAndType 11 12), (0, u "root"), (0, u "Lcom/example/graphweave/graphweave/jsonld/TermMap$Branch;"), (2, u "hash"), (0, u "I"), (0, .methodref 18 19), (0, .class_ 20), (0, .nameAndType 21 22), (0, u "java/lang/String"), (0, u "hashCode"), (0, u "()I"), (0, .class_ 24), (0, u "com/example/graphweave/graphweave/jsonld/TermMap$Branch"), (0, .methodref 1 26), (0, .nameAndType 27 28), (0, u "bit"), (0, u "(II)I"), (0, .fieldref 23 30), (0, .nameAndType 31 16), (0, u "bitmap"), (8, .class_ 41), (0, u "com/example/graphweave/graphweave/jsonld/TermMap$Entry"), (4, .methodref 18 47), (0, .nameAndType 48 49), (0, u "equals"), (0, u "(Ljava/lang/Object;)Z"), (4, .class_ 55), (0, u "com/example/graphweave/graphweave/jsonld/TermMap$Bucket"), (2, u "get"), (0, u "(Ljava/lang/String;)Lcom/example/graphweave/graphweave/jsonld/TermDefinition;"), (87, u "EMPTY"), (0, u "Lcom/example/graphweave/graphweave/jsonld/TermMap;"), (0, u "BITS"), (2, u "SLOT_MASK")] 21

def k12c0 : Code := { maxStack := 3, maxLocals := 7, code := prog_63_method_2_code, exceptionTable := #[], attributes := #[] }
def k12m0 : Method := { name := "get", desc := "(Ljava/lang/String;)Lcom/example/graphweave/graphweave/jsonld/TermDefinition;", sig := { parameters := [(.object "java/lang/String")], returnType := some (.object "com/example/graphweave/graphweave/jsonld/TermDefinition") }, accessFlags := 0, code := some k12c0 }
def k12c1 : Code := { maxStack := 3, maxLocals := 2, code := prog_63_method_9_code, exceptionTable := #[], attributes := #[] }
def k12m1 : Method := { name := "bit", desc := "(II)I", sig := { parameters := [.int, .int], returnType := some .int }, accessFlags := 10, code := some k12c1 }
/-- com/example/graphweave/graphweave/jsonld/TermMap -/
def k12 : Class := { plain "com/example/graphweave/graphweave/jsonld/TermMap" (some 0) with
  accessFlags := 48
  interfaces := #[]
  cf := some (fileOf pool12 1 #[.nestMembers #[54, 23, 40]] #[{ accessFlags := 0, nameIndex := 58, descriptorIndex := 59, attributes := #[] }, { accessFlags := 10, nameIndex := 27, descriptorIndex := 28, attributes := #[] }] 48 4 #[] #[{ accessFlags := 24, nameIndex := 147, descriptorIndex := 148, attributes := #[] }, { accessFlags := 26, nameIndex := 149, descriptorIndex := 16, attributes := #[] }, { accessFlags := 26, nameIndex := 152, descriptorIndex := 16, attributes := #[] }, { accessFlags := 18, nameIndex := 11, descriptorIndex := 12, attributes := #[] }, { accessFlags := 18, nameIndex := 15, descriptorIndex := 16, attributes := #[] }])
  fields := #[{ name := "EMPTY", type := (.object "com/example/graphweave/graphweave/jsonld/TermMap"), accessFlags := 24, slot := 0, constantValue := 0 }, { name := "BITS", type := .int, accessFlags := 26, slot := 1, constantValue := 0 }, { name := "SLOT_MASK", type := .int, accessFlags := 26, slot := 2, constantValue := 0 }, { name := "root", type := (.object "com/example/graphweave/graphweave/jsonld/TermMap$Branch"), accessFlags := 18, slot := 0, constantValue := 0 }, { name := "hash", type := .int, accessFlags := 18, slot := 1, constantValue := 0 }]
  methods := #[k12m0, k12m1]
  instanceTypes := #[(.object "com/example/graphweave/graphweave/jsonld/TermMap$Branch"), .int]
  staticTypes := #[(.object "com/example/graphweave/graphweave/jsonld/TermMap"), .int, .int]
  resolved := Array.replicate 174 none
  statics := some 2 }

def pool13 : Array CpInfo := pool [(2, .class_ 4), (1, u "java/lang/Object"), (3, .class_ 10), (1, u "com/example/graphweave/graphweave/jsonld/TermMap$Branch"), (0, u "bitmap"), (0, u "I"), (2, u "slots"), (0, u "[Ljava/lang/Object;"), (32, .class_ 50), (0, u "com/example/graphweave/graphweave/jsonld/TermMap")] 2

/-- com/example/graphweave/graphweave/jsonld/TermMap$Branch -/
def k13 : Class := { plain "com/example/graphweave/graphweave/jsonld/TermMap$Branch" (some 0) with
  accessFlags := 48
  interfaces := #[]
  cf := some (fileOf pool13 8 #[.nestHost 49] #[] 48 2 #[] #[{ accessFlags := 16, nameIndex := 11, descriptorIndex := 12, attributes := #[] }, { accessFlags := 16, nameIndex := 15, descriptorIndex := 16, attributes := #[] }])
  fields := #[{ name := "bitmap", type := .int, accessFlags := 16, slot := 0, constantValue := 0 }, { name := "slots", type := (.array (.object "java/lang/Object")), accessFlags := 16, slot := 1, constantValue := 0 }]
  methods := #[]
  instanceTypes := #[.int, (.array (.object "java/lang/Object"))]
  staticTypes := #[]
  resolved := Array.replicate 53 none
  statics := none }

def pool14 : Array CpInfo := pool [(6, .class_ 8), (1, u "java/lang/Object"), (0, u "<init>"), (0, u "()V"), (1, .class_ 14), (1, u "java/lang/StringUTF16"), (31, u "$assertionsDisabled"), (0, u "Z"), (13, u "HI_BYTE_SHIFT"), (0, u "I"), (2, u "LO_BYTE_SHIFT"), (49, .methodref 12 116), (0, .nameAndType 117 118), (0, u "compress"), (0, u "([CI[BII)I"), (3, u "([CII)[B"), (138, u "coderFromArrayLen"), (0, u "([BI)B"), (106, .class_ 371), (1, u "java/lang/StringUTF16$LinesSpliterator"), (58, u "MAX_LENGTH"), (196, .class_ 628), (0, u "java/lang/StringUTF16$CodePointsSpliterator"), (0, .class_ 630), (0, u "java/lang/StringUTF16$CharsSpliterator")] 4

def k14m0 : Method := { name := "<init>", desc := "()V", sig := { parameters := [], returnType := none }, accessFlags := 0, code := none }
def k14c1 : Code := { maxStack := 2, maxLocals := 2, code := jdk_52_method_15_code, exceptionTable := #[], attributes := #[] }
def k14m1 : Method := { name := "coderFromArrayLen", desc := "([BI)B", sig := { parameters := [(.array .byte), .int], returnType := some .byte }, accessFlags := 8, code := some k14c1 }
def k14c2 : Code := { maxStack := 5, maxLocals := 6, code := jdk_52_method_16_code, exceptionTable := #[], attributes := #[] }
def k14m2 : Method := { name := "compress", desc := "([CII)[B", sig := { parameters := [(.array .char), .int, .int], returnType := some (.array .byte) }, accessFlags := 9, code := some k14c2 }
def k14c3 : Code := { maxStack := 3, maxLocals := 7, code := jdk_52_method_21_code, exceptionTable := #[], attributes := #[] }
def k14m3 : Method := { name := "compress", desc := "([CI[BII)I", sig := { parameters := [(.array .char), .int, (.array .byte), .int, .int], returnType := some .int }, accessFlags := 9, code := some k14c3 }
/-- java/lang/StringUTF16 -/
def k14 : Class := { plain "java/lang/StringUTF16" (some 0) with
  accessFlags := 48
  interfaces := #[]
  cf := some (fileOf pool14 12 #[.nestMembers #[627, 629, 369]] #[{ accessFlags := 0, nameIndex := 9, descriptorIndex := 10, attributes := #[] }, { accessFlags := 8, nameIndex := 261, descriptorIndex := 262, attributes := #[] }, { accessFlags := 9, nameIndex := 117, descriptorIndex := 122, attributes := #[] }, { accessFlags := 9, nameIndex := 117, descriptorIndex := 118, attributes := #[] }] 48 6 #[] #[{ accessFlags := 26, nameIndex := 61, descriptorIndex := 62, attributes := #[] }, { accessFlags := 26, nameIndex := 65, descriptorIndex := 62, attributes := #[] }, { accessFlags := 24, nameIndex := 430, descriptorIndex := 62, attributes := #[] }, { accessFlags := 4120, nameIndex := 46, descriptorIndex := 47, attributes := #[] }])
  fields := #[{ name := "HI_BYTE_SHIFT", type := .int, accessFlags := 26, slot := 0, constantValue := 0 }, { name := "LO_BYTE_SHIFT", type := .int, accessFlags := 26, slot := 1, constantValue := 0 }, { name := "MAX_LENGTH", type := .int, accessFlags := 24, slot := 2, constantValue := 0 }, { name := "$assertionsDisabled", type := .boolean, accessFlags := 4120, slot := 3, constantValue := 0 }]
  methods := #[k14m0, k14m1, k14m2, k14m3]
  instanceTypes := #[]
  staticTypes := #[.int, .int, .int, .boolean]
  resolved := Array.replicate 635 none
  statics := none }

def pool15 : Array CpInfo := pool [(2, .class_ 4), (1, u "java/lang/Object"), (0, u "<init>"), (0, u "()V"), (17, .class_ 26), (1, u "jdk/internal/util/Preconditions"), (28, .class_ 56), (0, u "jdk/internal/util/Preconditions$4"), (57, .class_ 115), (0, u "jdk/internal/util/Preconditions$1"), (7, u "SIOOBE_FORMATTER"), (0, u "Ljava/util/function/BiFunction;"), (0, .class_ 126), (0, u "jdk/internal/util/Preconditions$2"), (3, u "AIOOBE_FORMATTER"), (0, .class_ 132), (0, u "jdk/internal/util/Preconditions$3"), (3, u "IOOBE_FORMATTER")] 57

def k15m0 : Method := { name := "<init>", desc := "()V", sig := { parameters := [], returnType := none }, accessFlags := 1, code := none }
/-- jdk/internal/util/Preconditions -/
def k15 : Class := { plain "jdk/internal/util/Preconditions" (some 0) with
  accessFlags := 33
  interfaces := #[]
  cf := some (fileOf pool15 24 #[.nestMembers #[55, 131, 125, 114]] #[{ accessFlags := 1, nameIndex := 5, descriptorIndex := 6, attributes := #[] }] 33 2 #[] #[{ accessFlags := 25, nameIndex := 123, descriptorIndex := 124, attributes := #[] }, { accessFlags := 25, nameIndex := 130, descriptorIndex := 124, attributes := #[] }, { accessFlags := 25, nameIndex := 136, descriptorIndex := 124, attributes := #[] }])
  fields := #[{ name := "SIOOBE_FORMATTER", type := (.object "java/util/function/BiFunction"), accessFlags := 25, slot := 0, constantValue := 0 }, { name := "AIOOBE_FORMATTER", type := (.object "java/util/function/BiFunction"), accessFlags := 25, slot := 1, constantValue := 0 }, { name := "IOOBE_FORMATTER", type := (.object "java/util/function/BiFunction"), accessFlags := 25, slot := 2, constantValue := 0 }]
  methods := #[k15m0]
  instanceTypes := #[]
  staticTypes := #[(.object "java/util/function/BiFunction"), (.object "java/util/function/BiFunction"), (.object "java/util/function/BiFunction")]
  resolved := Array.replicate 194 none
  statics := some 3 }

def pool16 : Array CpInfo := pool [(9, u "<init>"), (6, .class_ 18), (1, u "java/lang/Object"), (0, u "()V"), (1, .class_ 23), (1, u "jdk/internal/util/ArraysSupport"), (0, u "LOG2_ARRAY_LONG_INDEX_SCALE"), (0, u "I"), (2, u "U"), (0, u "Ljdk/internal/misc/Unsafe;"), (8, u "BIG_ENDIAN"), (0, u "Z"), (8, u "LOG2_BYTE_BIT_SIZE"), (4, u "LOG2_ARRAY_INT_INDEX_SCALE"), (54, u "JLA"), (0, u "Ljdk/internal/access/JavaLangAccess;"), (11, u "LOG2_ARRAY_BOOLEAN_INDEX_SCALE"), (9, u "LOG2_ARRAY_BYTE_INDEX_SCALE"), (5, u "LOG2_ARRAY_CHAR_INDEX_SCALE"), (5, u "LOG2_ARRAY_SHORT_INDEX_SCALE"), (18, u "LOG2_ARRAY_FLOAT_INDEX_SCALE"), (24, u "LOG2_ARRAY_DOUBLE_INDEX_SCALE"), (89, u "T_BOOLEAN"), (2, u "T_CHAR"), (1, u "T_FLOAT"), (1, u "T_DOUBLE"), (1, u "T_BYTE"), (1, u "T_SHORT"), (1, u "T_INT"), (1, u "T_LONG"), (1, u "SOFT_MAX_ARRAY_LENGTH")] 83

def k16m0 : Method := { name := "<init>", desc := "()V", sig := { parameters := [], returnType := none }, accessFlags := 2, code := none }
/-- jdk/internal/util/ArraysSupport -/
def k16 : Class := { plain "jdk/internal/util/ArraysSupport" (some 0) with
  accessFlags := 33
  interfaces := #[]
  cf := some (fileOf pool16 21 #[] #[{ accessFlags := 2, nameIndex := 9, descriptorIndex := 19, attributes := #[] }] 33 16 #[] #[{ accessFlags := 24, nameIndex := 28, descriptorIndex := 29, attributes := #[] }, { accessFlags := 26, nameIndex := 38, descriptorIndex := 39, attributes := #[] }, { accessFlags := 25, nameIndex := 121, descriptorIndex := 25, attributes := #[] }, { accessFlags := 25, nameIndex := 131, descriptorIndex := 25, attributes := #[] }, { accessFlags := 25, nameIndex := 137, descriptorIndex := 25, attributes := #[] }, { accessFlags := 25, nameIndex := 143, descriptorIndex := 25, attributes := #[] }, { accessFlags := 25, nameIndex := 53, descriptorIndex := 25, attributes := #[] }, { accessFlags := 25, nameIndex := 24, descriptorIndex := 25, attributes := #[] }, { accessFlags := 25, nameIndex := 162, descriptorIndex := 25, attributes := #[] }, { accessFlags := 25, nameIndex := 187, descriptorIndex := 25, attributes := #[] }, { accessFlags := 26, nameIndex := 48, descriptorIndex := 25, attributes := #[] }, { accessFlags := 25, nameIndex := 277, descriptorIndex := 25, attributes := #[] }, { accessFlags := 25, nameIndex := 280, descriptorIndex := 25, attributes := #[] }, { accessFlags := 25, nameIndex := 282, descriptorIndex := 25, attributes := #[] }, { accessFlags := 25, nameIndex := 284, descriptorIndex := 25, attributes := #[] }, { accessFlags := 25, nameIndex := 286, descriptorIndex := 25, attributes := #[] }, { accessFlags := 25, nameIndex := 288, descriptorIndex := 25, attributes := #[] }, { accessFlags := 25, nameIndex := 290, descriptorIndex := 25, attributes := #[] }, { accessFlags := 25, nameIndex := 292, descriptorIndex := 25, attributes := #[] }, { accessFlags := 26, nameIndex := 108, descriptorIndex := 109, attributes := #[] }, { accessFlags := 25, nameIndex := 294, descriptorIndex := 25, attributes := #[] }])
  fields := #[{ name := "U", type := (.object "jdk/internal/misc/Unsafe"), accessFlags := 24, slot := 0, constantValue := 0 }, { name := "BIG_ENDIAN", type := .boolean, accessFlags := 26, slot := 1, constantValue := 0 }, { name := "LOG2_ARRAY_BOOLEAN_INDEX_SCALE", type := .int, accessFlags := 25, slot := 2, constantValue := 0 }, { name := "LOG2_ARRAY_BYTE_INDEX_SCALE", type := .int, accessFlags := 25, slot := 3, constantValue := 0 }, { name := "LOG2_ARRAY_CHAR_INDEX_SCALE", type := .int, accessFlags := 25, slot := 4, constantValue := 0 }, { name := "LOG2_ARRAY_SHORT_INDEX_SCALE", type := .int, accessFlags := 25, slot := 5, constantValue := 0 }, { name := "LOG2_ARRAY_INT_INDEX_SCALE", type := .int, accessFlags := 25, slot := 6, constantValue := 0 }, { name := "LOG2_ARRAY_LONG_INDEX_SCALE", type := .int, accessFlags := 25, slot := 7, constantValue := 0 }, { name := "LOG2_ARRAY_FLOAT_INDEX_SCALE", type := .int, accessFlags := 25, slot := 8, constantValue := 0 }, { name := "LOG2_ARRAY_DOUBLE_INDEX_SCALE", type := .int, accessFlags := 25, slot := 9, constantValue := 0 }, { name := "LOG2_BYTE_BIT_SIZE", type := .int, accessFlags := 26, slot := 10, constantValue := 0 }, { name := "T_BOOLEAN", type := .int, accessFlags := 25, slot := 11, constantValue := 0 }, { name := "T_CHAR", type := .int, accessFlags := 25, slot := 12, constantValue := 0 }, { name := "T_FLOAT", type := .int, accessFlags := 25, slot := 13, constantValue := 0 }, { name := "T_DOUBLE", type := .int, accessFlags := 25, slot := 14, constantValue := 0 }, { name := "T_BYTE", type := .int, accessFlags := 25, slot := 15, constantValue := 0 }, { name := "T_SHORT", type := .int, accessFlags := 25, slot := 16, constantValue := 0 }, { name := "T_INT", type := .int, accessFlags := 25, slot := 17, constantValue := 0 }, { name := "T_LONG", type := .int, accessFlags := 25, slot := 18, constantValue := 0 }, { name := "JLA", type := (.object "jdk/internal/access/JavaLangAccess"), accessFlags := 26, slot := 19, constantValue := 0 }, { name := "SOFT_MAX_ARRAY_LENGTH", type := .int, accessFlags := 25, slot := 20, constantValue := 0 }]
  methods := #[k16m0]
  instanceTypes := #[]
  staticTypes := #[(.object "jdk/internal/misc/Unsafe"), .boolean, .int, .int, .int, .int, .int, .int, .int, .int, .int, .int, .int, .int, .int, .int, .int, .int, .int, (.object "jdk/internal/access/JavaLangAccess"), .int]
  resolved := Array.replicate 378 none
  statics := none }

def pool17 : Array CpInfo := pool [(1, u "java/lang/Cloneable"), (0, .class_ 1), (0, u "java/lang/Object"), (0, .class_ 3)] 3

/-- java/lang/Cloneable -/
def k17 : Class := { plain "java/lang/Cloneable" (some 0) with
  accessFlags := 1537
  interfaces := #[]
  cf := some (fileOf pool17 2 #[] #[] 1537 4 #[] #[])
  fields := #[]
  methods := #[]
  instanceTypes := #[]
  staticTypes := #[]
  resolved := Array.replicate 8 none
  statics := none }

/-- the primitive byte -/
def k18 : Class := { plain "byte" none with kind := .primitive 'B', accessFlags := 0x411 }
/-- [B -/
def k19 : Class := { plain "[B" (some 0) with kind := .array 18 .byte, interfaces := #[17, 4], accessFlags := 1041 }

/-- the primitive char -/
def k20 : Class := { plain "char" none with kind := .primitive 'C', accessFlags := 0x411 }
/-- [C -/
def k21 : Class := { plain "[C" (some 0) with kind := .array 20 .char, interfaces := #[17, 4], accessFlags := 1041 }

/-- the primitive int -/
def k22 : Class := { plain "int" none with kind := .primitive 'I', accessFlags := 0x411 }
/-- [I -/
def k23 : Class := { plain "[I" (some 0) with kind := .array 22 .int, interfaces := #[17, 4], accessFlags := 1041 }

def heap : Heap := #[{ cls := 6, slots := #[.ref 4, .ref 5, .null], vm := .statics 6 },
  { cls := 9, slots := #[.long 0, .int 1, .null, .int 0, .null, .int 0, .int 0], vm := .statics 9 },
  { cls := 12, slots := #[.ref 6, .int 0, .int 0], vm := .statics 12 },
  { cls := 15, slots := #[.null, .null, .null], vm := .statics 15 },
  { cls := 6, slots := #[.null, .int 0, .int 0, .null], vm := .none },
  { cls := 6, slots := #[.null, .int 1, .int 0, .null], vm := .none },
  { cls := 12, slots := #[.ref 7, .int 0], vm := .none },
  { cls := 13, slots := #[.int 0, .null], vm := .none }]
def classes : Array Class := #[k0, k1, k2, k3, k4, k5, k6, k7, k8, k9, k10, k11, k12, k13, k14, k15, k16, k17, k18, k19, k20, k21, k22, k23]
def interned : List (Array UInt16 × Addr) := []
def slotsUsed : Nat := 28
def theMethod : MethodId := ⟨1, 1⟩
def args0 : Array Value := #[.int 5, .int 5, .int 5, .int 5, .int 5]
def aboutOver (below : List Frame) : State where
  vm := { classes := classes, interned := interned.toArray }
  heap := heap
  slotsUsed := slotsUsed
  threads := #[{ frames := .invoking theMethod args0 :: below }]
def below0 : List Frame := [.native { method := ⟨0, 0⟩, args := #[] }]
def about1 : State := aboutOver below0
def p0 : Program := .bare "" "" ""
def e0 : Env := launch0.env 0 0 0
theorem w_frames : about1.frames = Frame.invoking theMethod args0 :: below0 := rfl
set_option maxRecDepth 65536 in
theorem w_args : argsFit about1.vm theMethod args0 = true := by decide +kernel
set_option maxRecDepth 65536 in
theorem w_heap : heapFits about1 = true := by decide +kernel
set_option maxRecDepth 65536 in
theorem w_runnable : about1.curStatus? = some .runnable := by decide +kernel
set_option maxRecDepth 65536 in
theorem w_alone : about1.alone = true := by decide +kernel
set_option maxRecDepth 65536 in
theorem w_named : about1.methodNamed? x = some theMethod := by decide +kernel
set_option maxRecDepth 65536 in
theorem w_hears : about1.hears theMethod below0 = true := by decide +kernel
set_option maxRecDepth 65536 in
theorem w_ripe : about1.ripe theMethod args0 below0 = true := by decide +kernel
theorem w_running : about1.status = .running := rfl
set_option maxRecDepth 65536 in
theorem w_room : about1.hasRoom e0.platform room_1 = true :=
  launch0.hasRoom_least _ room_1 (by decide +kernel) (by decide +kernel) (by decide +kernel) (by decide +kernel) (by decide +kernel) (by decide +kernel)
theorem allAtoms_all (ts : List Jvm.Cond) (a : Array Jvm.Value) (st : Jvm.State) : (allAtoms ts).before a st = ts.all (fun c => c.before a st) := by
  induction ts with
  | nil => rfl
  | cons c t ih =>
    show (Jvm.Cond.and c (allAtoms t)).before a st = _
    rw [Jvm.Cond.before_and, ih, List.all_cons]
def words1 : List Jvm.Cond := Jvm.Cond.code x code maxLocals ret :: tables_1
/-- a 'code' word, met by the world's own term for the bytes: nothing is compared byte by byte -/
theorem code_word {y : MethodName} {bytes : ByteArray} {mx : Nat} {rt : Option FieldType} {a : Array Value} {s : State} {m : MethodId} {meth : Method} {c : Code} (h1 : s.methodNamed? y = some m) (h2 : s.vm.method? m = some meth) (h3 : meth.code = some c) (h4 : c.code = bytes)
    (h5 : (c.maxLocals == mx && c.exceptionTable.isEmpty && decide (c.maxStack ≤ mostOperands) && decide (meth.sig.returnType = rt) && !meth.locks && decide (parseMethodDescriptor y.desc = some meth.sig)) = true) : (Jvm.Cond.code y bytes mx rt).before a s = true := by
  simp only [Bool.and_eq_true, beq_iff_eq, Bool.not_eq_true', decide_eq_true_eq] at h5
  obtain ⟨⟨⟨⟨⟨g1, g2⟩, g3⟩, g4⟩, g5⟩, g6⟩ := h5
  simp [Cond.before, Cond.holds, Cond.value, h1, h2, h3, h4, g1, g2, g3, g4, g5, g6]
def isCode : Jvm.Cond → Bool
  | .code _ _ _ _ => true
  | _ => false
theorem all_split {L : List Jvm.Cond} {P : Jvm.Cond → Bool} (h1 : L.all (fun c => isCode c || P c) = true) (h2 : ∀ c ∈ L.filter isCode, P c = true) : L.all P = true := by
  refine List.all_eq_true.mpr fun c hc => ?_
  have h := List.all_eq_true.mp h1 c hc
  rcases Bool.eq_false_or_eq_true (isCode c) with hi | hi
  · exact h2 c (List.mem_filter.mpr ⟨hc, hi⟩)
  · simpa [hi] using h
set_option maxRecDepth 65536 in
theorem w_c0 : (Jvm.Cond.code x code maxLocals ret).before args0 about1 = true := code_word (m := ⟨1, 1⟩) (meth := k1m1) (c := k1c1) (by decide +kernel) rfl rfl rfl (by decide +kernel)
set_option maxRecDepth 65536 in
theorem w_c1 : (Jvm.Cond.code ({ cls := "java/lang/String", name := "valueOf", desc := "(C)Ljava/lang/String;" } : Jvm.MethodName) jdk_42_method_139_code (1 : Nat) (Option.some (Jvm.ClassFile.FieldType.object "java/lang/String"))).before args0 about1 = true := code_word (m := ⟨9, 4⟩) (meth := k9m4) (c := k9c4) (by decide +kernel) rfl rfl rfl (by decide +kernel)
set_option maxRecDepth 65536 in
theorem w_c2 : (Jvm.Cond.code ({ cls := "java/lang/StringLatin1", name := "canEncode", desc := "(C)Z" } : Jvm.MethodName) jdk_43_method_3_code (1 : Nat) (Option.some Jvm.ClassFile.FieldType.boolean)).before args0 about1 = true := code_word (m := ⟨10, 1⟩) (meth := k10m1) (c := k10c1) (by decide +kernel) rfl rfl rfl (by decide +kernel)
set_option maxRecDepth 65536 in
theorem w_c3 : (Jvm.Cond.code ({ cls := "java/lang/StringLatin1", name := "toBytes", desc := "(C)[B" } : Jvm.MethodName) jdk_43_method_46_code (1 : Nat) (Option.some (Jvm.ClassFile.FieldType.array Jvm.ClassFile.FieldType.byte))).before args0 about1 = true := code_word (m := ⟨10, 3⟩) (meth := k10m3) (c := k10c3) (by decide +kernel) rfl rfl rfl (by decide +kernel)
set_option maxRecDepth 65536 in
theorem w_c4 : (Jvm.Cond.code ({ cls := "java/lang/String", name := "<init>", desc := "([BB)V" } : Jvm.MethodName) jdk_42_method_151_code (3 : Nat) (Option.none : Option Jvm.ClassFile.FieldType)).before args0 about1 = true := code_word (m := ⟨9, 6⟩) (meth := k9m6) (c := k9c6) (by decide +kernel) rfl rfl rfl (by decide +kernel)
set_option maxRecDepth 65536 in
theorem w_c5 : (Jvm.Cond.code ({ cls := "java/lang/Object", name := "<init>", desc := "()V" } : Jvm.MethodName) object_method_1_code (1 : Nat) (Option.none : Option Jvm.ClassFile.FieldType)).before args0 about1 = true := code_word (m := ⟨0, 0⟩) (meth := k0m0) (c := k0c0) (by decide +kernel) rfl rfl rfl (by decide +kernel)
set_option maxRecDepth 65536 in
theorem w_c6 : (Jvm.Cond.code ({ cls := "com/example/graphweave/graphweave/jsonld/ActiveContext", name := "initial", desc := "(Ljava/lang/String;Lcom/example/graphweave/graphweave/jsonld/ProcessingMode;)Lcom/example/graphweave/graphweave/jsonld/ActiveContext;" } : Jvm.MethodName) prog_28_method_2_code (2 : Nat) (Option.some (Jvm.ClassFile.FieldType.object "com/example/graphweave/graphweave/jsonld/ActiveContext"))).before args0 about1 = true := code_word (m := ⟨11, 1⟩) (meth := k11m1) (c := k11c1) (by decide +kernel) rfl rfl rfl (by decide +kernel)
set_option maxRecDepth 65536 in
theorem w_c7 : (Jvm.Cond.code ({ cls := "com/example/graphweave/graphweave/jsonld/ActiveContext", name := "<init>", desc := "(Ljava/lang/String;Lcom/example/graphweave/graphweave/jsonld/ProcessingMode;Lcom/example/graphweave/graphweave/jsonld/TermMap;Lcom/example/graphweave/graphweave/jsonld/ActiveContext;Lcom/example/graphweave/graphweave/jsonld/Location$Placement;)V" } : Jvm.MethodName) prog_28_method_1_code (6 : Nat) (Option.none : Option Jvm.ClassFile.FieldType)).before args0 about1 = true := code_word (m := ⟨11, 0⟩) (meth := k11m0) (c := k11c0) (by decide +kernel) rfl rfl rfl (by decide +kernel)
set_option maxRecDepth 65536 in
theorem w_c8 : (Jvm.Cond.code ({ cls := "com/example/graphweave/graphweave/jsonld/ActiveContextInitialPinLaw", name := "same", desc := "(Ljava/lang/String;Ljava/lang/String;)Z" } : Jvm.MethodName) method_3_code (2 : Nat) (Option.some Jvm.ClassFile.FieldType.boolean)).before args0 about1 = true := code_word (m := ⟨1, 2⟩) (meth := k1m2) (c := k1c2) (by decide +kernel) rfl rfl rfl (by decide +kernel)
set_option maxRecDepth 65536 in
theorem w_c9 : (Jvm.Cond.code ({ cls := "com/example/graphweave/graphweave/jsonld/ActiveContext", name := "isJsonLd10", desc := "()Z" } : Jvm.MethodName) prog_28_method_4_code (1 : Nat) (Option.some Jvm.ClassFile.FieldType.boolean)).before args0 about1 = true := code_word (m := ⟨11, 2⟩) (meth := k11m2) (c := k11c2) (by decide +kernel) rfl rfl rfl (by decide +kernel)
set_option maxRecDepth 65536 in
theorem w_c10 : (Jvm.Cond.code ({ cls := "com/example/graphweave/graphweave/jsonld/ActiveContext", name := "processed", desc := "()Lcom/example/graphweave/graphweave/jsonld/ActiveContext;" } : Jvm.MethodName) prog_28_method_7_code (1 : Nat) (Option.some (Jvm.ClassFile.FieldType.object "com/example/graphweave/graphweave/jsonld/ActiveContext"))).before args0 about1 = true := code_word (m := ⟨11, 3⟩) (meth := k11m3) (c := k11c3) (by decide +kernel) rfl rfl rfl (by decide +kernel)
set_option maxRecDepth 65536 in
theorem w_c11 : (Jvm.Cond.code ({ cls := "com/example/graphweave/graphweave/jsonld/ActiveContext", name := "term", desc := "(Ljava/lang/String;)Lcom/example/graphweave/graphweave/jsonld/TermDefinition;" } : Jvm.MethodName) prog_28_method_13_code (2 : Nat) (Option.some (Jvm.ClassFile.FieldType.object "com/example/graphweave/graphweave/jsonld/TermDefinition"))).before args0 about1 = true := code_word (m := ⟨11, 4⟩) (meth := k11m4) (c := k11c4) (by decide +kernel) rfl rfl rfl (by decide +kernel)
set_option maxRecDepth 65536 in
theorem w_c12 : (Jvm.Cond.code ({ cls := "com/example/graphweave/graphweave/jsonld/TermMap", name := "get", desc := "(Ljava/lang/String;)Lcom/example/graphweave/graphweave/jsonld/TermDefinition;" } : Jvm.MethodName) prog_63_method_2_code (7 : Nat) (Option.some (Jvm.ClassFile.FieldType.object "com/example/graphweave/graphweave/jsonld/TermDefinition"))).before args0 about1 = true := code_word (m := ⟨12, 0⟩) (meth := k12m0) (c := k12c0) (by decide +kernel) rfl rfl rfl (by decide +kernel)
set_option maxRecDepth 65536 in
theorem w_c13 : (Jvm.Cond.code ({ cls := "java/lang/String", name := "hashCode", desc := "()I" } : Jvm.MethodName) jdk_42_method_78_code (2 : Nat) (Option.some Jvm.ClassFile.FieldType.int)).before args0 about1 = true := code_word (m := ⟨9, 3⟩) (meth := k9m3) (c := k9c3) (by decide +kernel) rfl rfl rfl (by decide +kernel)
set_option maxRecDepth 65536 in
theorem w_c14 : (Jvm.Cond.code ({ cls := "java/lang/String", name := "isLatin1", desc := "()Z" } : Jvm.MethodName) jdk_42_method_154_code (1 : Nat) (Option.some Jvm.ClassFile.FieldType.boolean)).before args0 about1 = true := code_word (m := ⟨9, 7⟩) (meth := k9m7) (c := k9c7) (by decide +kernel) rfl rfl rfl (by decide +kernel)
set_option maxRecDepth 65536 in
theorem w_c15 : (Jvm.Cond.code ({ cls := "java/lang/StringLatin1", name := "hashCode", desc := "([B)I" } : Jvm.MethodName) jdk_43_method_21_code (1 : Nat) (Option.some Jvm.ClassFile.FieldType.int)).before args0 about1 = true := code_word (m := ⟨10, 2⟩) (meth := k10m2) (c := k10c2) (by decide +kernel) rfl rfl rfl (by decide +kernel)
set_option maxRecDepth 65536 in
theorem w_c16 : (Jvm.Cond.code ({ cls := "com/example/graphweave/graphweave/jsonld/TermMap", name := "bit", desc := "(II)I" } : Jvm.MethodName) prog_63_method_9_code (2 : Nat) (Option.some Jvm.ClassFile.FieldType.int)).before args0 about1 = true := code_word (m := ⟨12, 1⟩) (meth := k12m1) (c := k12c1) (by decide +kernel) rfl rfl rfl (by decide +kernel)
set_option maxRecDepth 65536 in
theorem w_c17 : (Jvm.Cond.code ({ cls := "com/example/graphweave/graphweave/jsonld/ActiveContextInitialPinLaw", name := "str", desc := "(IIII)Ljava/lang/String;" } : Jvm.MethodName) method_4_code (7 : Nat) (Option.some (Jvm.ClassFile.FieldType.object "java/lang/String"))).before args0 about1 = true := code_word (m := ⟨1, 3⟩) (meth := k1m3) (c := k1c3) (by decide +kernel) rfl rfl rfl (by decide +kernel)
set_option maxRecDepth 65536 in
theorem w_c18 : (Jvm.Cond.code ({ cls := "java/lang/String", name := "<init>", desc := "([C)V" } : Jvm.MethodName) jdk_42_method_3_code (2 : Nat) (Option.none : Option Jvm.ClassFile.FieldType)).before args0 about1 = true := code_word (m := ⟨9, 1⟩) (meth := k9m1) (c := k9c1) (by decide +kernel) rfl rfl rfl (by decide +kernel)
set_option maxRecDepth 65536 in
theorem w_c19 : (Jvm.Cond.code ({ cls := "java/lang/String", name := "<init>", desc := "([CIILjava/lang/Void;)V" } : Jvm.MethodName) jdk_42_method_149_code (6 : Nat) (Option.none : Option Jvm.ClassFile.FieldType)).before args0 about1 = true := code_word (m := ⟨9, 5⟩) (meth := k9m5) (c := k9c5) (by decide +kernel) rfl rfl rfl (by decide +kernel)
set_option maxRecDepth 65536 in
theorem w_c20 : (Jvm.Cond.code ({ cls := "java/lang/StringUTF16", name := "compress", desc := "([CII)[B" } : Jvm.MethodName) jdk_52_method_16_code (6 : Nat) (Option.some (Jvm.ClassFile.FieldType.array Jvm.ClassFile.FieldType.byte))).before args0 about1 = true := code_word (m := ⟨14, 2⟩) (meth := k14m2) (c := k14c2) (by decide +kernel) rfl rfl rfl (by decide +kernel)
set_option maxRecDepth 65536 in
theorem w_c21 : (Jvm.Cond.code ({ cls := "java/lang/StringUTF16", name := "compress", desc := "([CI[BII)I" } : Jvm.MethodName) jdk_52_method_21_code (7 : Nat) (Option.some Jvm.ClassFile.FieldType.int)).before args0 about1 = true := code_word (m := ⟨14, 3⟩) (meth := k14m3) (c := k14c3) (by decide +kernel) rfl rfl rfl (by decide +kernel)
set_option maxRecDepth 65536 in
theorem w_c22 : (Jvm.Cond.code ({ cls := "java/lang/StringUTF16", name := "coderFromArrayLen", desc := "([BI)B" } : Jvm.MethodName) jdk_52_method_15_code (2 : Nat) (Option.some Jvm.ClassFile.FieldType.byte)).before args0 about1 = true := code_word (m := ⟨14, 1⟩) (meth := k14m1) (c := k14c1) (by decide +kernel) rfl rfl rfl (by decide +kernel)
set_option maxRecDepth 65536 in
theorem w_c23 : (Jvm.Cond.code ({ cls := "java/lang/String", name := "equals", desc := "(Ljava/lang/Object;)Z" } : Jvm.MethodName) jdk_42_method_66_code (3 : Nat) (Option.some Jvm.ClassFile.FieldType.boolean)).before args0 about1 = true := code_word (m := ⟨9, 2⟩) (meth := k9m2) (c := k9c2) (by decide +kernel) rfl rfl rfl (by decide +kernel)
def codes1 : List Jvm.Cond := [Jvm.Cond.code x code maxLocals ret, Jvm.Cond.code ({ cls := "java/lang/String", name := "valueOf", desc := "(C)Ljava/lang/String;" } : Jvm.MethodName) jdk_42_method_139_code (1 : Nat) (Option.some (Jvm.ClassFile.FieldType.object "java/lang/String")), Jvm.Cond.code ({ cls := "java/lang/StringLatin1", name := "canEncode", desc := "(C)Z" } : Jvm.MethodName) jdk_43_method_3_code (1 : Nat) (Option.some Jvm.ClassFile.FieldType.boolean), Jvm.Cond.code ({ cls := "java/lang/StringLatin1", name := "toBytes", desc := "(C)[B" } : Jvm.MethodName) jdk_43_method_46_code (1 : Nat) (Option.some (Jvm.ClassFile.FieldType.array Jvm.ClassFile.FieldType.byte)), Jvm.Cond.code ({ cls := "java/lang/String", name := "<init>", desc := "([BB)V" } : Jvm.MethodName) jdk_42_method_151_code (3 : Nat) (Option.none : Option Jvm.ClassFile.FieldType), Jvm.Cond.code ({ cls := "java/lang/Object", name := "<init>", desc := "()V" } : Jvm.MethodName) object_method_1_code (1 : Nat) (Option.none : Option Jvm.ClassFile.FieldType), Jvm.Cond.code ({ cls := "com/example/graphweave/graphweave/jsonld/ActiveContext", name := "initial", desc := "(Ljava/lang/String;Lcom/example/graphweave/graphweave/jsonld/ProcessingMode;)Lcom/example/graphweave/graphweave/jsonld/ActiveContext;" } : Jvm.MethodName) prog_28_method_2_code (2 : Nat) (Option.some (Jvm.ClassFile.FieldType.object "com/example/graphweave/graphweave/jsonld/ActiveContext")), Jvm.Cond.code ({ cls := "com/example/graphweave/graphweave/jsonld/ActiveContext", name := "<init>", desc := "(Ljava/lang/String;Lcom/example/graphweave/graphweave/jsonld/ProcessingMode;Lcom/example/graphweave/graphweave/jsonld/TermMap;Lcom/example/graphweave/graphweave/jsonld/ActiveContext;Lcom/example/graphweave/graphweave/jsonld/Location$Placement;)V" } : Jvm.MethodName) prog_28_method_1_code (6 : Nat) (Option.none : Option Jvm.ClassFile.FieldType), Jvm.Cond.code ({ cls := "com/example/graphweave/graphweave/jsonld/ActiveContextInitialPinLaw", name := "same", desc := "(Ljava/lang/String;Ljava/lang/String;)Z" } : Jvm.MethodName) method_3_code (2 : Nat) (Option.some Jvm.ClassFile.FieldType.boolean), Jvm.Cond.code ({ cls := "com/example/graphweave/graphweave/jsonld/ActiveContext", name := "isJsonLd10", desc := "()Z" } : Jvm.MethodName) prog_28_method_4_code (1 : Nat) (Option.some Jvm.ClassFile.FieldType.boolean), Jvm.Cond.code ({ cls := "com/example/graphweave/graphweave/jsonld/ActiveContext", name := "processed", desc := "()Lcom/example/graphweave/graphweave/jsonld/ActiveContext;" } : Jvm.MethodName) prog_28_method_7_code (1 : Nat) (Option.some (Jvm.ClassFile.FieldType.object "com/example/graphweave/graphweave/jsonld/ActiveContext")), Jvm.Cond.code ({ cls := "com/example/graphweave/graphweave/jsonld/ActiveContext", name := "term", desc := "(Ljava/lang/String;)Lcom/example/graphweave/graphweave/jsonld/TermDefinition;" } : Jvm.MethodName) prog_28_method_13_code (2 : Nat) (Option.some (Jvm.ClassFile.FieldType.object "com/example/graphweave/graphweave/jsonld/TermDefinition")), Jvm.Cond.code ({ cls := "com/example/graphweave/graphweave/jsonld/TermMap", name := "get", desc := "(Ljava/lang/String;)Lcom/example/graphweave/graphweave/jsonld/TermDefinition;" } : Jvm.MethodName) prog_63_method_2_code (7 : Nat) (Option.some (Jvm.ClassFile.FieldType.object "com/example/graphweave/graphweave/jsonld/TermDefinition")), Jvm.Cond.code ({ cls := "java/lang/String", name := "hashCode", desc := "()I" } : Jvm.MethodName) jdk_42_method_78_code (2 : Nat) (Option.some Jvm.ClassFile.FieldType.int), Jvm.Cond.code ({ cls := "java/lang/String", name := "isLatin1", desc := "()Z" } : Jvm.MethodName) jdk_42_method_154_code (1 : Nat) (Option.some Jvm.ClassFile.FieldType.boolean), Jvm.Cond.code ({ cls := "java/lang/StringLatin1", name := "hashCode", desc := "([B)I" } : Jvm.MethodName) jdk_43_method_21_code (1 : Nat) (Option.some Jvm.ClassFile.FieldType.int), Jvm.Cond.code ({ cls := "com/example/graphweave/graphweave/jsonld/TermMap", name := "bit", desc := "(II)I" } : Jvm.MethodName) prog_63_method_9_code (2 : Nat) (Option.some Jvm.ClassFile.FieldType.int), Jvm.Cond.code ({ cls := "com/example/graphweave/graphweave/jsonld/ActiveContextInitialPinLaw", name := "str", desc := "(IIII)Ljava/lang/String;" } : Jvm.MethodName) method_4_code (7 : Nat) (Option.some (Jvm.ClassFile.FieldType.object "java/lang/String")), Jvm.Cond.code ({ cls := "java/lang/String", name := "<init>", desc := "([C)V" } : Jvm.MethodName) jdk_42_method_3_code (2 : Nat) (Option.none : Option Jvm.ClassFile.FieldType), Jvm.Cond.code ({ cls := "java/lang/String", name := "<init>", desc := "([CIILjava/lang/Void;)V" } : Jvm.MethodName) jdk_42_method_149_code (6 : Nat) (Option.none : Option Jvm.ClassFile.FieldType), Jvm.Cond.code ({ cls := "java/lang/StringUTF16", name := "compress", desc := "([CII)[B" } : Jvm.MethodName) jdk_52_method_16_code (6 : Nat) (Option.some (Jvm.ClassFile.FieldType.array Jvm.ClassFile.FieldType.byte)), Jvm.Cond.code ({ cls := "java/lang/StringUTF16", name := "compress", desc := "([CI[BII)I" } : Jvm.MethodName) jdk_52_method_21_code (7 : Nat) (Option.some Jvm.ClassFile.FieldType.int), Jvm.Cond.code ({ cls := "java/lang/StringUTF16", name := "coderFromArrayLen", desc := "([BI)B" } : Jvm.MethodName) jdk_52_method_15_code (2 : Nat) (Option.some Jvm.ClassFile.FieldType.byte), Jvm.Cond.code ({ cls := "java/lang/String", name := "equals", desc := "(Ljava/lang/Object;)Z" } : Jvm.MethodName) jdk_42_method_66_code (3 : Nat) (Option.some Jvm.ClassFile.FieldType.boolean)]
set_option maxRecDepth 65536 in
theorem codes_eq : words1.filter isCode = codes1 := rfl
theorem w_codes : ∀ c ∈ words1.filter isCode, c.before args0 about1 = true := by
  rw [codes_eq]
  intro c hc
  simp only [codes1, List.mem_cons, List.not_mem_nil, or_false] at hc
  rcases hc with rfl | rfl | rfl | rfl | rfl | rfl | rfl | rfl | rfl | rfl | rfl | rfl | rfl | rfl | rfl | rfl | rfl | rfl | rfl | rfl | rfl | rfl | rfl | rfl
  · exact w_c0
  · exact w_c1
  · exact w_c2
  · exact w_c3
  · exact w_c4
  · exact w_c5
  · exact w_c6
  · exact w_c7
  · exact w_c8
  · exact w_c9
  · exact w_c10
  · exact w_c11
  · exact w_c12
  · exact w_c13
  · exact w_c14
  · exact w_c15
  · exact w_c16
  · exact w_c17
  · exact w_c18
  · exact w_c19
  · exact w_c20
  · exact w_c21
  · exact w_c22
  · exact w_c23
set_option maxRecDepth 65536 in
theorem w_t1 : (words1.take 24).all (fun c => isCode c || c.before args0 about1) = true := by decide +kernel
set_option maxRecDepth 65536 in
theorem w_t2 : ((words1.drop 24).take 24).all (fun c => isCode c || c.before args0 about1) = true := by decide +kernel
set_option maxRecDepth 65536 in
theorem w_t3 : (((words1.drop 24).drop 24).take 24).all (fun c => isCode c || c.before args0 about1) = true := by decide +kernel
set_option maxRecDepth 65536 in
theorem w_t4 : ((((words1.drop 24).drop 24).drop 24).take 24).all (fun c => isCode c || c.before args0 about1) = true := by decide +kernel
set_option maxRecDepth 65536 in
theorem w_t5 : (((((words1.drop 24).drop 24).drop 24).drop 24).take 24).all (fun c => isCode c || c.before args0 about1) = true := by decide +kernel
set_option maxRecDepth 65536 in
theorem w_t6 : ((((((words1.drop 24).drop 24).drop 24).drop 24).drop 24).take 24).all (fun c => isCode c || c.before args0 about1) = true := by decide +kernel
set_option maxRecDepth 65536 in
theorem w_t7 : ((((((words1.drop 24).drop 24).drop 24).drop 24).drop 24).drop 24).all (fun c => isCode c || c.before args0 about1) = true := by decide +kernel
theorem w_tables : (allAtoms (Jvm.Cond.code x code maxLocals ret :: tables_1)).before args0 about1 = true := by
  rw [allAtoms_all]
  show words1.all (fun c => c.before args0 about1) = true
  refine all_split ?_ w_codes
  rw [← List.take_append_drop 24 words1, List.all_append, w_t1, ← List.take_append_drop 24 (words1.drop 24), List.all_append, w_t2, ← List.take_append_drop 24 ((words1.drop 24).drop 24), List.all_append, w_t3, ← List.take_append_drop 24 (((words1.drop 24).drop 24).drop 24), List.all_append, w_t4, ← List.take_append_drop 24 ((((words1.drop 24).drop 24).drop 24).drop 24), List.all_append, w_t5, ← List.take_append_drop 24 (((((words1.drop 24).drop 24).drop 24).drop 24).drop 24), List.all_append, w_t6, w_t7]
  rfl
set_option maxRecDepth 65536 in
theorem w_rest : rest_1_c.before args0 about1 = true := by decide +kernel
set_option maxRecDepth 65536 in
theorem w_case : (Jvm.Cond.and given_1 narrow_1).before args0 about1 = true := by decide +kernel
set_option maxRecDepth 65536 in
theorem w_consts : constsHeld consts_1 about1 := Jvm.Lit.constsHeldB_iff.mp (by decide +kernel)
theorem w_applies : (headSpec (Jvm.Cond.code x code maxLocals ret :: tables_1) room_1).applies x e0.platform about1 = true :=
  (Spec.applies_iff w_frames).mpr ⟨w_running, w_runnable, w_alone, w_named, w_hears, w_ripe, w_room, w_tables⟩
theorem atStart : AtStart classFile x code maxLocals ret World_1 tables_1 room_1 Calls_1 rest_1 Pre_1 launch0 p0 e0 about1 theMethod args0 below0 :=
  ⟨lists_1, trivial, launch0.admits_env _ _ _, launch0.least_env, fairChoices_fair.cas, fairChoices_fair.clock, w_frames, w_args, w_heap, w_applies, ⟨w_consts, trivial⟩, w_rest, w_case⟩
end start1
theorem witness_1 : WitnessClaimed_1 := ⟨start1.p0, start1.e0, start1.about1, start1.theMethod, start1.args0, start1.below0, start1.atStart⟩
end Jvm.Pilot.@@N@@
