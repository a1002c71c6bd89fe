import JvmDerived
import JvmDerived.Pilot.@@N@@Statement
import JvmDerived.Pilot.@@N@@Code
set_option linter.unusedVariables false
set_option linter.unusedSimpArgs false
namespace Jvm.RoadKit
open Sem ClassFile Op Lib Jvm.Stand Jvm.Free Jvm.LawKit
section New
variable {p : Program} {l : Launch} {e : Env} {R : Room} {s : State} {m : MethodId} {args : Array Value} {below : List Frame} {meth : Method} {c : Code} {T : State} {locs : List Loc} {cells slots : Nat}
theorem retI (X : Stand p l e R s m args below meth c T locs cells slots) (hx : p.tables.exec = Jvm.exec) {pc : Nat} {Ls : Array Slot} {z : Int32} {rest : List Value} (hret : meth.sig.returnType = some .int) (hd : decode c.code pc = .ok (.ireturn, 1)) {fs : List Frame}
    (hl : ∀ (f : JFrame) (acts : List Action), f.method = m → f.locked = none → f.entered = [] → (doReturn e (T.setTop f) acts (some (.int z))).1 = T.setFrames fs) : Steps p.tables e below (T.setTop (mkF m pc Ls (.int z :: rest))) (T.setFrames fs) := by
  have hm' : T.vm.method? m = some meth := X.method'
  have hn : narrow .int (.int z) = .int z := rfl
  show Steps p.tables e below (T.setTop { method := m, pc := pc, locals := Ls, stack := _ :: rest, locked := none }) _
  jvm_step X.here [X.here.top, hx, hd, hm', hret, hn]
  first | (intro acts; rw [hl _ acts rfl rfl rfl]) | rw [hl _ _ rfl rfl rfl]
  exact Steps.refl _
end New
end Jvm.RoadKit
namespace Jvm.RoadKit
open Sem ClassFile Op Lib Jvm.Stand Jvm.Free Jvm.LawKit
/-- own: the rest of a run, from the state t on -/
def Go (p : Program) (e : Env) (below : List Frame) (s : State) (Q : Option Value → Heap → List Loc → Prop) (C S : Nat) (t : State) : Prop :=
  ∃ s₂ o, Steps p.tables e below t s₂ ∧ s₂.status = .running ∧ Ended s₂ below o ∧ ∃ v L, o = .returned v ∧ Q v s₂.heap L ∧ FrameEnd s o s₂ L C S
theorem Go.st {p : Program} {e : Env} {below : List Frame} {s : State} {Q : Option Value → Heap → List Loc → Prop} {C S : Nat} {t t' : State} (h : ∀ target, Steps p.tables e below t' target → Steps p.tables e below t target) (k : Go p e below s Q C S t') : Go p e below s Q C S t := by
  obtain ⟨s₂, o, h1, h2⟩ := k
  exact ⟨s₂, o, h _ h1, h2⟩
theorem Go.by {p : Program} {e : Env} {below : List Frame} {s : State} {Q : Option Value → Heap → List Loc → Prop} {C S : Nat} {t t' : State} (h : Steps p.tables e below t t') (k : Go p e below s Q C S t') : Go p e below s Q C S t := by
  obtain ⟨s₂, o, h1, h2⟩ := k
  exact ⟨s₂, o, h.trans h1, h2⟩
theorem Go.ret {p : Program} {l : Launch} {e : Env} {R : Room} {s : State} {m : MethodId} {args : Array Value} {below : List Frame} {meth : Method} {c : Code} {T : State} {locs : List Loc} {cells slots : Nat} {Q : Option Value → Heap → List Loc → Prop} {C S : Nat} {t : State}
    (X : Stand p l e R s m args below meth c T locs cells slots) {v : Option Value} (hv : meth.sig.returnType = none → v = none) (hlocks : meth.locks = false)
    (st : ∀ fs, (∀ (f : JFrame) (acts : List Action), f.method = m → f.locked = none → f.entered = [] → (doReturn e (T.setTop f) acts v).1 = T.setFrames fs) → Steps p.tables e below t (T.setFrames fs))
    (hQ : Q v T.heap locs) (hC : cells ≤ C) (hS : slots ≤ S) : Go p e below s Q C S t := by
  obtain ⟨fs, hr, hrun, hended, hW, hsame⟩ := X.leave hv hlocks
  exact ⟨_, _, st fs hr, hrun, hended, _, _, rfl, hQ, ⟨_, rfl⟩, hW, hsame.mono hC hS⟩
def GoW (p : Program) (e : Env) (below : List Frame) (s : State) (Q : Option Value → Heap → List Loc → Prop) (C S : Nat) (t : State) : Prop :=
  ∃ s₂ o, Steps p.tables e below t s₂ ∧ s₂.status = .running ∧ Ended s₂ below o ∧ ∃ v L, o = .returned v ∧ Q v s₂.heap L ∧ ReturnedEndW s o s₂ L C S
theorem GoW.st {p : Program} {e : Env} {below : List Frame} {s : State} {Q : Option Value → Heap → List Loc → Prop} {C S : Nat} {t t' : State} (h : ∀ target, Steps p.tables e below t' target → Steps p.tables e below t target) (k : GoW p e below s Q C S t') : GoW p e below s Q C S t := by
  obtain ⟨s₂, o, h1, h2⟩ := k
  exact ⟨s₂, o, h _ h1, h2⟩
theorem GoW.by {p : Program} {e : Env} {below : List Frame} {s : State} {Q : Option Value → Heap → List Loc → Prop} {C S : Nat} {t t' : State} (h : Steps p.tables e below t t') (k : GoW p e below s Q C S t') : GoW p e below s Q C S t := by
  obtain ⟨s₂, o, h1, h2⟩ := k
  exact ⟨s₂, o, h.trans h1, h2⟩
theorem GoW.ret {p : Program} {l : Launch} {e : Env} {R : Room} {s : State} {vm₁ : Vm} {m : MethodId} {args : Array Value} {below : List Frame} {meth : Method} {c : Code} {T : State} {locs : List Loc} {cells slots : Nat} {Q : Option Value → Heap → List Loc → Prop} {C S : Nat} {t : State}
    (X : Stand p l e R (s.setVm vm₁) m args below meth c T locs cells slots) {n : Nat} (hSi : s.Since vm₁ n) (hn : n ≤ T.heap.size) {v : Option Value} (hv : meth.sig.returnType = none → v = none) (hlocks : meth.locks = false)
    (st : ∀ fs, (∀ (f : JFrame) (acts : List Action), f.method = m → f.locked = none → f.entered = [] → (doReturn e (T.setTop f) acts v).1 = T.setFrames fs) → Steps p.tables e below t (T.setFrames fs))
    (hQ : Q v T.heap locs) (hC : cells ≤ C) (hS : slots ≤ S) : GoW p e below s Q C S t := by
  obtain ⟨fs, hr, hrun, hended, h1, h2, h3, h4⟩ := X.leaveW hSi hn hv hlocks
  exact ⟨_, _, st fs hr, hrun, hended, _, _, rfl, hQ, h1, h2, h3, h4.mono hC hS⟩
abbrev Rm (f c s l : Nat) : Room := { frames := f, cells := c, slots := s, locals := l }
abbrev Met (l : Launch) (Z : State) (ws : List Cond) (y : MethodName) (bytes : ByteArray) (ml : Nat) (rt : Option FieldType) (rm : Room) (as' : Array Value) (h0 : Heap) (Q : Option Value → Heap → List Loc → Prop) : Prop :=
  MetFree l y (head1 (Cond.code y bytes ml rt :: ws) rm) (fun a U => a = as' ∧ Z.Warmed39 U.vm ∧ U.heap = h0) (fun _ _ _ _ _ => True) (fun _ U o U' => ∃ v L, o = .returned v ∧ Q v U'.heap L ∧ FrameEnd U o U' L rm.cells rm.slots)
theorem Met.enter {l : Launch} {Z : State} {ws : List Cond} {y : MethodName} {bytes : ByteArray} {ml : Nat} {rt : Option FieldType} {rm : Room} {as' : Array Value} {h0 : Heap} {Q : Option Value → Heap → List Loc → Prop} {L0 : Array Slot} (hp : plainFor y = true) (ef : ∀ m, entryFrame m as' ml = mkF m 0 L0 [])
    (body : ∀ (p : Program) (e : Env) (s : State) (m : MethodId) (below : List Frame) (meth : Method) (c : Code) (s₁ : State), p.tables.exec = Jvm.exec → c.code = bytes → c.maxLocals = ml → s.vm.findClass y.cls = some m.cls → meth.name = y.name → meth.sig.returnType = rt → meth.locks = false → Z.Warmed39 s.vm → Stand p l e rm s m as' below meth c s₁ [] 0 0 → s₁.heap = h0 → Go p e below s Q rm.cells rm.slots (s₁.setTop (mkF m 0 L0 []))) : Met l Z ws y bytes ml rt rm as' h0 Q := by
  refine MetFree.of_bodySF hp hisR ?_
  intro p e s m args below meth c s₁ Bd hml0 hP hK
  obtain ⟨rfl, hZ, hh⟩ := hP
  have e0 : s₁.heap = h0 := by rw [← hh, Bd.state]; rfl
  exact Go.st (fun t k => castTop (ef m) k) (body p e s m below meth c s₁ Bd.exec Bd.bytes hml0 (findClass_of_methodNamed Bd.named) (name_of_methodNamed Bd.named Bd.method).1 Bd.returns (BodyLoose.notSynchronized Bd) hZ (Stand.of_body Bd) e0)
abbrev MetW (l : Launch) (Z : State) (ws : List Cond) (y : MethodName) (bytes : ByteArray) (ml : Nat) (rt : Option FieldType) (rm : Room) (as' : Array Value) (h0 : Heap) (Q : Option Value → Heap → List Loc → Prop) : Prop :=
  MetFree l y (head1 (Cond.code y bytes ml rt :: ws) rm) (fun a U => a = as' ∧ Z.Warmed39 U.vm ∧ U.heap = h0) (fun _ _ _ _ _ => True) (fun _ U o U' => ∃ v L, o = .returned v ∧ Q v U'.heap L ∧ ReturnedEndW U o U' L rm.cells rm.slots)
theorem MetW.enter {l : Launch} {Z : State} {ws : List Cond} {y : MethodName} {bytes : ByteArray} {ml : Nat} {rt : Option FieldType} {rm : Room} {as' : Array Value} {h0 : Heap} {Q : Option Value → Heap → List Loc → Prop} {L0 : Array Slot} (hp : plainFor y = true) (ef : ∀ m, entryFrame m as' ml = mkF m 0 L0 [])
    (body : ∀ (p : Program) (e : Env) (s : State) (m : MethodId) (below : List Frame) (meth : Method) (c : Code) (s₁ : State), p.tables.exec = Jvm.exec → c.code = bytes → c.maxLocals = ml → s.vm.findClass y.cls = some m.cls → meth.name = y.name → meth.sig.returnType = rt → meth.locks = false → Z.Warmed39 s.vm → Stand p l e rm (s.setVm s.vm) m as' below meth c s₁ [] 0 0 → s₁.heap = h0 → GoW p e below s Q rm.cells rm.slots (s₁.setTop (mkF m 0 L0 []))) : MetW l Z ws y bytes ml rt rm as' h0 Q := by
  refine MetFree.of_bodySF hp hisR ?_
  intro p e s m args below meth c s₁ Bd hml0 hP hK
  obtain ⟨rfl, hZ, hh⟩ := hP
  have e0 : s₁.heap = h0 := by rw [← hh, Bd.state]; rfl
  exact GoW.st (fun t k => castTop (ef m) k) (body p e s m below meth c s₁ Bd.exec Bd.bytes hml0 (findClass_of_methodNamed Bd.named) (name_of_methodNamed Bd.named Bd.method).1 Bd.returns (BodyLoose.notSynchronized Bd) hZ (Stand.of_body Bd) e0)
def GoH (p : Program) (e : Env) (below : List Frame) (s : State) (P : Option Value → State → List Loc → Prop) (C S : Nat) (t : State) : Prop :=
  ∃ s₂ o, Steps p.tables e below t s₂ ∧ s₂.status = .running ∧ Ended s₂ below o ∧ ∃ v L, o = .returned v ∧ P v s₂ L ∧ ReturnedEndW s o s₂ L C S
theorem GoH.st {p : Program} {e : Env} {below : List Frame} {s : State} {P : Option Value → State → List Loc → Prop} {C S : Nat} {t t' : State} (h : ∀ target, Steps p.tables e below t' target → Steps p.tables e below t target) (k : GoH p e below s P C S t') : GoH p e below s P C S t := by
  obtain ⟨s₂, o, h1, h2⟩ := k
  exact ⟨s₂, o, h _ h1, h2⟩
theorem GoH.by {p : Program} {e : Env} {below : List Frame} {s : State} {P : Option Value → State → List Loc → Prop} {C S : Nat} {t t' : State} (h : Steps p.tables e below t t') (k : GoH p e below s P C S t') : GoH p e below s P C S t := by
  obtain ⟨s₂, o, h1, h2⟩ := k
  exact ⟨s₂, o, h.trans h1, h2⟩
theorem GoH.ret {p : Program} {l : Launch} {e : Env} {R : Room} {s : State} {vm₁ : Vm} {m : MethodId} {args : Array Value} {below : List Frame} {meth : Method} {c : Code} {T : State} {locs : List Loc} {cells slots : Nat} {Q : Option Value → Heap → List Loc → Prop} {C S : Nat} {t : State} {Z : State} {EL : List (String × Nat)} {a0 : Array Value} {h0 h : Heap}
    (X : Stand p l e R (s.setVm vm₁) m args below meth c T locs cells slots) {n : Nat} (hSi : s.Since vm₁ n) (hn : n ≤ T.heap.size) (hZ : Z.Warmed39 vm₁) (hEL : EW Z a0 EL) (ch : CHr Z EL s.vm h0 vm₁ h) (eT : T.heap = h) {v : Option Value} (hv : meth.sig.returnType = none → v = none) (hlocks : meth.locks = false)
    (st : ∀ fs, (∀ (f : JFrame) (acts : List Action), f.method = m → f.locked = none → f.entered = [] → (doReturn e (T.setTop f) acts v).1 = T.setFrames fs) → Steps p.tables e below t (T.setFrames fs))
    (hQ : Q v T.heap locs) (hC : cells ≤ C) (hS : slots ≤ S) : GoH p e below s (fun v s₂ L => Q v s₂.heap L ∧ CHr Z EL s.vm h0 s₂.vm s₂.heap) C S t := by
  obtain ⟨fs, hr, hrun, hended, h1, h2, h3, h4⟩ := X.leaveW hSi hn hv hlocks
  have q := ch.trans (CHv.at X hZ hEL ch.1)
  rw [← eT] at q
  exact ⟨_, _, st fs hr, hrun, hended, _, _, rfl, ⟨hQ, q⟩, h1, h2, h3, h4.mono hC hS⟩
abbrev MetH (EL : List (String × Nat)) (xs : List Addr) (l : Launch) (Z : State) (ws : List Cond) (y : MethodName) (bytes : ByteArray) (ml : Nat) (rt : Option FieldType) (rm : Room) (as' : Array Value) (h0 : Heap) (Q : Option Value → Heap → List Loc → Prop) : Prop :=
  MetFree l y (head1 (Cond.code y bytes ml rt :: ws) rm) (fun a U => a = as' ∧ Z.Warmed39 U.vm ∧ U.heap = h0 ∧ CHv Z EL U.vm h0 ∧ ∀ x ∈ xs, Safe Z EL U.vm h0 x) (fun _ _ _ _ _ => True) (fun _ U o U' => ∃ v L, o = .returned v ∧ Q v U'.heap L ∧ CHr Z EL U.vm U.heap U'.vm U'.heap ∧ ReturnedEndW U o U' L rm.cells rm.slots)
theorem MetH.enter {EL : List (String × Nat)} {xs : List Addr} {l : Launch} {Z : State} {ws : List Cond} {y : MethodName} {bytes : ByteArray} {ml : Nat} {rt : Option FieldType} {rm : Room} {as' : Array Value} {h0 : Heap} {Q : Option Value → Heap → List Loc → Prop} {L0 : Array Slot} (hp : plainFor y = true) (ef : ∀ m, entryFrame m as' ml = mkF m 0 L0 [])
    (body : ∀ (p : Program) (e : Env) (s : State) (m : MethodId) (below : List Frame) (meth : Method) (c : Code) (s₁ : State), p.tables.exec = Jvm.exec → c.code = bytes → c.maxLocals = ml → s.vm.findClass y.cls = some m.cls → meth.name = y.name → meth.sig.returnType = rt → meth.locks = false → Z.Warmed39 s.vm → Stand p l e rm (s.setVm s.vm) m as' below meth c s₁ [] 0 0 → s₁.heap = h0 → CHv Z EL s.vm h0 → (∀ x ∈ xs, Safe Z EL s.vm h0 x) → GoH p e below s (fun v s₂ L => Q v s₂.heap L ∧ CHr Z EL s.vm h0 s₂.vm s₂.heap) rm.cells rm.slots (s₁.setTop (mkF m 0 L0 []))) : MetH EL xs l Z ws y bytes ml rt rm as' h0 Q := by
  refine MetFree.of_bodySF hp hisR ?_
  intro p e s m args below meth c s₁ Bd hml0 hP hK
  obtain ⟨rfl, hZ, hh, hH, hX⟩ := hP
  have e0 : s₁.heap = h0 := by rw [← hh, Bd.state]; rfl
  obtain ⟨s₂, o, q1, q2, q3, v, L, q4, ⟨q5, q6⟩, q7⟩ := GoH.st (fun t k => castTop (ef m) k) (body p e s m below meth c s₁ Bd.exec Bd.bytes hml0 (findClass_of_methodNamed Bd.named) (name_of_methodNamed Bd.named Bd.method).1 Bd.returns (BodyLoose.notSynchronized Bd) hZ (Stand.of_body Bd) e0 hH hX)
  exact ⟨s₂, o, q1, q2, q3, v, L, q4, q5, by rw [hh]; exact q6, q7⟩
abbrev MetP (EL : List (String × Nat)) (xs : List Addr) (l : Launch) (Z : State) (ws : List Cond) (y : MethodName) (bytes : ByteArray) (ml : Nat) (rt : Option FieldType) (rm : Room) (as' : Array Value) (h0 : Heap) (Q : Option Value → Heap → List Loc → Prop) : Prop :=
  MetFree l y (head1 (Cond.code y bytes ml rt :: ws) rm) (fun a U => a = as' ∧ Z.Warmed39 U.vm ∧ U.heap = h0 ∧ CHv Z EL U.vm h0 ∧ ∀ x ∈ xs, Safe Z EL U.vm h0 x) (fun _ _ _ _ _ => True) (fun _ U o U' => ∃ v L, o = .returned v ∧ Q v U'.heap L ∧ ReturnedEndW U o U' L rm.cells rm.slots)
theorem MetP.enter {EL : List (String × Nat)} {xs : List Addr} {l : Launch} {Z : State} {ws : List Cond} {y : MethodName} {bytes : ByteArray} {ml : Nat} {rt : Option FieldType} {rm : Room} {as' : Array Value} {h0 : Heap} {Q : Option Value → Heap → List Loc → Prop} {L0 : Array Slot} (hp : plainFor y = true) (ef : ∀ m, entryFrame m as' ml = mkF m 0 L0 [])
    (body : ∀ (p : Program) (e : Env) (s : State) (m : MethodId) (below : List Frame) (meth : Method) (c : Code) (s₁ : State), p.tables.exec = Jvm.exec → c.code = bytes → c.maxLocals = ml → s.vm.findClass y.cls = some m.cls → meth.name = y.name → meth.sig.returnType = rt → meth.locks = false → Z.Warmed39 s.vm → Stand p l e rm (s.setVm s.vm) m as' below meth c s₁ [] 0 0 → s₁.heap = h0 → CHv Z EL s.vm h0 → (∀ x ∈ xs, Safe Z EL s.vm h0 x) → GoW p e below s Q rm.cells rm.slots (s₁.setTop (mkF m 0 L0 []))) : MetP EL xs l Z ws y bytes ml rt rm as' h0 Q := by
  refine MetFree.of_bodySF hp hisR ?_
  intro p e s m args below meth c s₁ Bd hml0 hP hK
  obtain ⟨rfl, hZ, hh, hH, hX⟩ := hP
  have e0 : s₁.heap = h0 := by rw [← hh, Bd.state]; rfl
  exact GoW.st (fun t k => castTop (ef m) k) (body p e s m below meth c s₁ Bd.exec Bd.bytes hml0 (findClass_of_methodNamed Bd.named) (name_of_methodNamed Bd.named Bd.method).1 Bd.returns (BodyLoose.notSynchronized Bd) hZ (Stand.of_body Bd) e0 hH hX)
theorem own_backOfSX {p : Program} {l : Launch} {e : Env} {R : Room} {s : State} {args : Array Value} {below : List Frame} {Z : State} {a0 : Array Value} {EL : List (String × Nat)} {xs : List Addr} {h : Heap} {vm0 : Vm} {y : MethodName} {bytes : ByteArray} {maxL : Nat} {ret : Option FieldType} {rm : Room} {len W : Nat} {as' : Array Value} {Q : Option Value → Heap → List Loc → Prop}
    (hM : MetFree l y (head1 [Cond.code y bytes maxL ret] rm) (fun a U => a = as' ∧ Z.Warmed39 U.vm ∧ U.heap = h ∧ CHv Z EL U.vm h ∧ ∀ x ∈ xs, Safe Z EL U.vm h x) (fun _ _ _ _ _ => True) (fun _ U o U' => ∃ v L, o = .returned v ∧ Q v U'.heap L ∧ CHr Z EL U.vm U.heap U'.vm U'.heap ∧ ReturnedEndW U o U' L rm.cells rm.slots))
    (hZ : Z.Warmed39 vm0) (wc : (Cond.code y bytes maxL ret).before a0 Z = true) (wz : (Cond.initialized y.cls).before a0 Z = true) (hf : rm.frames + 1 ≤ R.frames) (hl : W + (maxL + 11) + rm.locals ≤ R.locals) (hEL : EW Z a0 EL) (H : CHv Z EL vm0 h) (hxs : ∀ x ∈ xs, x < h.size ∧ Safe Z EL vm0 h x) :
    BackS l R p e below (s.setVm vm0) args y len W (fun A a => a = as' ∧ A.U.heap = h ∧ A.cells + rm.cells ≤ R.cells ∧ A.slots + rm.slots ≤ R.slots)
      (fun A _ v B => ∃ L, Q v B.U.heap L ∧ B.locs = A.locs ++ L ∧ B.cells = A.cells + rm.cells ∧ B.slots = A.slots + rm.slots ∧ CHr Z EL vm0 h B.U.vm B.U.heap) :=
  BackS.of_freeW (bytes := bytes) (maxL := maxL) (ret := ret) (E := fun _ first o t L k n => k = rm.cells ∧ n = rm.slots ∧ (∃ v, o = .returned v ∧ Q v t.heap L) ∧ CHr Z EL first.vm first.heap t.vm t.heap) hM hf hl
    (fun m meth c A a Y hp => have hU : Z.Warmed39 A.U.vm := wtrans (s := s.setVm vm0) hZ Y.warmed
      ⟨by show (Cond.and _ .tt).before a A.U = true; rw [Cond.before_and, mv hU wc]; rfl, mv hU wc, mv hU wz, hp.2.2.1, hp.2.2.2⟩)
    (fun m meth c A a g mk Y hp => ⟨hp.1, wtrans (s := s.setVm vm0) hZ Y.warmed, hp.2.1, (CHv.at Y hZ hEL H).1, fun x hx => (CHv.at Y hZ hEL H).safe (hxs x hx).1 (hxs x hx).2⟩) (fun _ _ _ _ _ _ _ _ _ => trivial)
    (fun _ _ _ _ ⟨v, L, h1, h2, h3, h4⟩ => ⟨L, _, _, h4, rfl, rfl, ⟨v, h1, h2⟩, h3⟩)
    (fun m meth c A a g mk v t L k n Y hp _ _ ⟨e1, e2, ⟨v', e3, e4⟩, e5⟩ => by
      cases e3; subst e1 e2
      refine ⟨L, e4, rfl, rfl, rfl, (CHv.at Y hZ hEL H).trans ?_⟩
      rw [← hp.2.1]; exact e5)
theorem own_backOfSP {p : Program} {l : Launch} {e : Env} {R : Room} {s : State} {args : Array Value} {below : List Frame} {Z : State} {a0 : Array Value} {EL : List (String × Nat)} {xs : List Addr} {h : Heap} {vm0 : Vm} {y : MethodName} {bytes : ByteArray} {maxL : Nat} {ret : Option FieldType} {rm : Room} {len W : Nat} {as' : Array Value} {Q : Option Value → Heap → List Loc → Prop}
    (hM : MetFree l y (head1 [Cond.code y bytes maxL ret] rm) (fun a U => a = as' ∧ Z.Warmed39 U.vm ∧ U.heap = h ∧ CHv Z EL U.vm h ∧ ∀ x ∈ xs, Safe Z EL U.vm h x) (fun _ _ _ _ _ => True) (fun _ U o U' => ∃ v L, o = .returned v ∧ Q v U'.heap L ∧ ReturnedEndW U o U' L rm.cells rm.slots))
    (hZ : Z.Warmed39 vm0) (wc : (Cond.code y bytes maxL ret).before a0 Z = true) (wz : (Cond.initialized y.cls).before a0 Z = true) (hf : rm.frames + 1 ≤ R.frames) (hl : W + (maxL + 11) + rm.locals ≤ R.locals) (hEL : EW Z a0 EL) (H : CHv Z EL vm0 h) (hxs : ∀ x ∈ xs, x < h.size ∧ Safe Z EL vm0 h x) :
    BackS l R p e below (s.setVm vm0) args y len W (fun A a => a = as' ∧ A.U.heap = h ∧ A.cells + rm.cells ≤ R.cells ∧ A.slots + rm.slots ≤ R.slots)
      (fun A _ v B => ∃ L, Q v B.U.heap L ∧ B.locs = A.locs ++ L ∧ B.cells = A.cells + rm.cells ∧ B.slots = A.slots + rm.slots) :=
  BackS.of_freeW (bytes := bytes) (maxL := maxL) (ret := ret) (E := fun _ first o t L k n => k = rm.cells ∧ n = rm.slots ∧ (∃ v, o = .returned v ∧ Q v t.heap L)) hM hf hl
    (fun m meth c A a Y hp => have hU : Z.Warmed39 A.U.vm := wtrans (s := s.setVm vm0) hZ Y.warmed
      ⟨by show (Cond.and _ .tt).before a A.U = true; rw [Cond.before_and, mv hU wc]; rfl, mv hU wc, mv hU wz, hp.2.2.1, hp.2.2.2⟩)
    (fun m meth c A a g mk Y hp => ⟨hp.1, wtrans (s := s.setVm vm0) hZ Y.warmed, hp.2.1, (CHv.at Y hZ hEL H).1, fun x hx => (CHv.at Y hZ hEL H).safe (hxs x hx).1 (hxs x hx).2⟩) (fun _ _ _ _ _ _ _ _ _ => trivial)
    (fun _ _ _ _ ⟨v, L, h1, h2, h4⟩ => ⟨L, _, _, h4, rfl, rfl, ⟨v, h1, h2⟩⟩)
    (fun m meth c A a g mk v t L k n Y hp _ _ ⟨e1, e2, ⟨v', e3, e4⟩⟩ => by
      cases e3; subst e1 e2
      exact ⟨L, e4, rfl, rfl, rfl⟩)
theorem retR {p : Program} {l : Launch} {e : Env} {R : Room} {s : State} {m : MethodId} {args : Array Value} {below : List Frame} {meth : Method} {c : Code} {T : State} {locs : List Loc} {cells slots : Nat} (X : Stand p l e R s m args below meth c T locs cells slots) (hx : p.tables.exec = Jvm.exec) {pc : Nat} {Ls : Array Slot} {z : Value} {rest : List Value} {t : FieldType} (hret : meth.sig.returnType = some t) (ht : t.isReference = true) (hz : z.isRef = true) (hd : decode c.code pc = .ok (.areturn, 1)) {fs : List Frame}
    (hl : ∀ (f : JFrame) (acts : List Action), f.method = m → f.locked = none → f.entered = [] → (doReturn e (T.setTop f) acts (some z)).1 = T.setFrames fs) : Steps p.tables e below (T.setTop (mkF m pc Ls (z :: rest))) (T.setFrames fs) := by
  have hm' : T.vm.method? m = some meth := X.method'
  show Steps p.tables e below (T.setTop { method := m, pc := pc, locals := Ls, stack := _ :: rest, locked := none }) _
  jvm_step X.here [X.here.top, hx, hd, hm', hret, ht, hz]
  first | (intro acts; rw [hl _ acts rfl rfl rfl]) | rw [hl _ _ rfl rfl rfl]
  exact Steps.refl _
theorem retJ {p : Program} {l : Launch} {e : Env} {R : Room} {s : State} {m : MethodId} {args : Array Value} {below : List Frame} {meth : Method} {c : Code} {T : State} {locs : List Loc} {cells slots : Nat} (X : Stand p l e R s m args below meth c T locs cells slots) (hx : p.tables.exec = Jvm.exec) {pc : Nat} {Ls : Array Slot} {z : Int64} {rest : List Value} (hret : meth.sig.returnType = some .long) (hd : decode c.code pc = .ok (.lreturn, 1)) {fs : List Frame}
    (hl : ∀ (f : JFrame) (acts : List Action), f.method = m → f.locked = none → f.entered = [] → (doReturn e (T.setTop f) acts (some (.long z))).1 = T.setFrames fs) : Steps p.tables e below (T.setTop (mkF m pc Ls (.long z :: rest))) (T.setFrames fs) := by
  have hm' : T.vm.method? m = some meth := X.method'
  show Steps p.tables e below (T.setTop { method := m, pc := pc, locals := Ls, stack := _ :: rest, locked := none }) _
  jvm_step X.here [X.here.top, hx, hd, hm', hret, narrow]
  first | (intro acts; rw [hl _ acts rfl rfl rfl]) | rw [hl _ _ rfl rfl rfl]
  exact Steps.refl _
theorem retD {p : Program} {l : Launch} {e : Env} {R : Room} {s : State} {m : MethodId} {args : Array Value} {below : List Frame} {meth : Method} {c : Code} {T : State} {locs : List Loc} {cells slots : Nat} (X : Stand p l e R s m args below meth c T locs cells slots) (hx : p.tables.exec = Jvm.exec) {pc : Nat} {Ls : Array Slot} {z : UInt64} {rest : List Value} (hret : meth.sig.returnType = some .double) (hd : decode c.code pc = .ok (.dreturn, 1)) {fs : List Frame}
    (hl : ∀ (f : JFrame) (acts : List Action), f.method = m → f.locked = none → f.entered = [] → (doReturn e (T.setTop f) acts (some (.double z))).1 = T.setFrames fs) : Steps p.tables e below (T.setTop (mkF m pc Ls (.double z :: rest))) (T.setFrames fs) := by
  have hm' : T.vm.method? m = some meth := X.method'
  show Steps p.tables e below (T.setTop { method := m, pc := pc, locals := Ls, stack := _ :: rest, locked := none }) _
  jvm_step X.here [X.here.top, hx, hd, hm', hret, narrow]
  first | (intro acts; rw [hl _ acts rfl rfl rfl]) | rw [hl _ _ rfl rfl rfl]
  exact Steps.refl _
theorem Arr.keep {Z : State} {h h' : Heap} {a : Addr} {c : Cell} {ty : FieldType} {ws : List Addr} (F : Arr Z h a c ty) (K : Keep h h' ws) (q : a ∉ ws) : Arr Z h' a c ty := ⟨K.2.1 a c F.1 q, F.2⟩
theorem Ins.keep {Z : State} {h h' : Heap} {a : Addr} {C : String} {b : Bool} {ws : List Addr} (F : Ins Z h a C b) (K : Keep h h' ws) : Ins Z h' a C b := by
  obtain ⟨cell, cT, h1, h2, h3⟩ := F
  obtain ⟨c', q, r1, r2, -⟩ := K.2.2 a cell h1
  exact ⟨c', cT, q, h2, by rw [r1, r2]; exact h3⟩
theorem own_selp {Z : State} {a0 : Array Value} {y : MethodName} {k : Nat} (wi : (Jvm.Cond.instantiable y.cls k).before a0 Z = true) (wp : (Jvm.Cond.privateMethod y).before a0 Z = true) (wm : (Jvm.Cond.instanceMethod y).before a0 Z = true) (hy : y.cls ≠ "java/lang/invoke/MethodHandle" ∧ y.cls ≠ "java/lang/invoke/VarHandle") : (Jvm.Cond.selects y.cls y y).before a0 Z = true := by
  obtain ⟨c, k', h1, h2, -, h3, -⟩ := Cond.instantiable_spec wi
  exact selects_self_of_private h1 h2 (by simp only [Bool.or_eq_false_iff] at h3; exact h3.1) (Cond.privateMethod_at wp) wm hy
theorem own_mvNest {Z s : State} {a0 args : Array Value} {own host : String} {index : Nat} {y : MethodName} (hZ : Z.Warmed39 s.vm) (w : (Jvm.Cond.methodLinkNest own index y host).before a0 Z = true) : (Jvm.Cond.methodLinkNest own index y host).before args s = true := (Cond.methodLinkNest_wide hZ w :)
theorem own_nsroot {Z : State} {a0 : Array Value} {O K : String} {n : Nat} (w : (Jvm.Cond.noSuperclass O).before a0 Z = true) (wk : (Jvm.Cond.instantiable K n).before a0 Z = true) (hn : O ≠ K) : NS Z O K := by
  obtain ⟨c, k, h1, h2, h3, -, -⟩ := Cond.noSuperclass_spec w
  obtain ⟨t, kt, g1, -⟩ := Cond.instantiable_spec wk
  have ne := ids_ne h1 g1 hn
  exact ⟨c, t, h1, g1, fun fuel => by cases fuel with | zero => rfl | succ f => simp [Vm.isSubclassAux, ne, h2, h3]⟩
theorem own_nsno {Z : State} {a0 : Array Value} {C S K : String} {n : Nat} (w : (Jvm.Cond.superclass C S).before a0 Z = true) (wk : (Jvm.Cond.instantiable K n).before a0 Z = true) (nn : NS Z C K) (hn : C ≠ K) : ∃ c t, Z.vm.findClass C = some c ∧ Z.vm.findClass K = some t ∧ Z.vm.assignable c t = false := by
  obtain ⟨c, t, h0, g0, n3⟩ := nn
  obtain ⟨p, k, kp, -, h2, -, -, h5, -, h7⟩ := Cond.superclass_spec h0 w
  obtain ⟨t', k', g1, g2, g3, g4, -⟩ := Cond.instantiable_spec wk
  cases g0.symm.trans g1
  simp only [Bool.or_eq_false_iff] at g4
  have ne := ids_ne h0 g0 hn
  refine ⟨c, _, h0, g0, ?_⟩
  show Z.vm.assignableAux (255 + 1) c _ = false
  simp [Vm.assignableAux, ne, h2, g2, h5, g3, g4.1, Vm.isSubclass, n3]
section OwnWords
variable {args : Array Value} {first s : State} {o : Option Outcome} {idx : List Nat} {a b t : Term}
theorem own_eqi {z : Int32} (h : (Jvm.Cond.eq a (Term.int z)).value args first o s idx = some true) : a.eval args first o idx s = some (.int z) := by
  obtain ⟨x, y, h1, h2, h3, h4⟩ := cmp_v (Or.inl h)
  obtain rfl : .int z = y := Option.some.inj ((Term.int_eval z).symm.trans h2)
  obtain ⟨w, rfl⟩ := h4
  simp only [Cond.value, h1, h2] at h
  simp at h
  rw [h1, h]
theorem own_eqr {w : Addr} (h : (Jvm.Cond.eq a b).value args first o s idx = some true) (hb : b.eval args first o idx s = some (.ref w)) : a.eval args first o idx s = some (.ref w) := by
  obtain ⟨x, y, h1, h2, h3, h4⟩ := cmp_v (Or.inl h)
  cases h2.symm.trans hb
  have hx : x.isRef = true := h4.2
  have q := gotT (eq_R h1 h2 hx rfl) h
  rw [h1, q]
theorem own_len {n : Int32} {w : Addr} {cl : Cell} (h : (Term.length t).eval args first o idx s = some (.int n)) (ht : t.eval args first o idx s = some (.ref w)) (hc : s.heap[w]? = some cl) : cl.slots.size = n.toNatClampNeg ∧ ¬ n < 0 := by
  obtain ⟨a', cell, ha', hat, hv⟩ := Term.length_spec h
  cases ht.symm.trans ha'
  cases (State.arrayAt?_spec hat).1.symm.trans hc
  have hsz : cl.slots.size < 2 ^ 31 := by
    simp only [Term.eval, ht, hat, Option.bind_eq_bind, Option.bind_some] at h
    by_cases hlt : cl.slots.size < 2147483648
    · exact hlt
    · simp [hlt] at h
  cases hv
  refine ⟨?_, ?_⟩
  · simp only [Int32.toNatClampNeg, len_toInt hsz]; rfl
  · rw [Int32.lt_iff_toInt_lt, len_toInt hsz]; show ¬ (cl.slots.size : Int) < 0; omega
end OwnWords
end Jvm.RoadKit
namespace Jvm.Pilot.@@N@@
open Jvm Jvm.ClassFile Sem Op Lib Jvm.Free Jvm.Stand Jvm.LawKit Jvm.RoadKit Bundle Jvm.Pilot.@@N@@.Jvm.D
set_option maxRecDepth 65536
set_option maxHeartbeats 40000000
def own_sel (j t0 t1 t2 t3 : Int32) : Int32 := if j = 0 then t0 else if j = 1 then t1 else if j = 2 then t2 else t3
theorem own_and3 (p : Int32) : (p &&& (3 : Int32)) = (0 : Int32) ∨ (p &&& (3 : Int32)) = (1 : Int32) ∨ (p &&& (3 : Int32)) = (2 : Int32) ∨ (p &&& (3 : Int32)) = (3 : Int32) := by
  have h := c_and p 3 (by decide)
  have e0 : (0 : Int32).toInt = 0 := rfl
  have e1 : (1 : Int32).toInt = 1 := rfl
  have e2 : (2 : Int32).toInt = 2 := rfl
  have e3 : (3 : Int32).toInt = 3 := rfl
  simp only [← Int32.toInt_inj, e0, e1, e2, e3]
  omega
theorem own_bd (p : Int32) : 0 ≤ (p &&& (3 : Int32)).toInt ∧ (p &&& (3 : Int32)).toInt < 4 := by
  have h := c_and p 3 (by decide)
  have e3 : (3 : Int32).toInt = 3 := rfl
  omega
theorem own_b0 : B53 (0 : Int64) := by unfold B53; decide
theorem own_b1 (x : Int32) : B53 (x.toInt64) := by
  have h := rng32 x
  have e := c_i2l x
  unfold B53; omega
theorem own_s1 (x : Int32) : B53 ((0 : Int64) + (x.toInt64)) := by
  have h := rng32 x
  have e := c_i2l x
  have a1 := c_ladd (0 : Int64) (x.toInt64)
  have r1 := rng64 ((0 : Int64) + (x.toInt64))
  have z : (0 : Int64).toInt = 0 := rfl
  unfold B53; omega
theorem own_s2 (x y : Int32) : B53 (((0 : Int64) + (x.toInt64)) + (y.toInt64)) := by
  have h := rng32 x
  have e := c_i2l x
  have h' := rng32 y
  have e' := c_i2l y
  have a1 := c_ladd (0 : Int64) (x.toInt64)
  have r1 := rng64 ((0 : Int64) + (x.toInt64))
  have a2 := c_ladd ((0 : Int64) + (x.toInt64)) (y.toInt64)
  have r2 := rng64 (((0 : Int64) + (x.toInt64)) + (y.toInt64))
  have z : (0 : Int64).toInt = 0 := rfl
  unfold B53; omega
theorem own_idx {j : Int32} (h : 0 ≤ j.toInt ∧ j.toInt < 4) : j = 0 ∨ j = 1 ∨ j = 2 ∨ j = 3 := by
  have e0 : (0 : Int32).toInt = 0 := rfl
  have e1 : (1 : Int32).toInt = 1 := rfl
  have e2 : (2 : Int32).toInt = 2 := rfl
  have e3 : (3 : Int32).toInt = 3 := rfl
  simp only [← Int32.toInt_inj, e0, e1, e2, e3]
  omega
theorem own_read {Z : State} {h : Heap} {a : Addr} {k : ClassId} {t0 t1 t2 t3 j : Int32} (F : Arv Z h a k .double (4 : Int32) [(.double (FP.l2d (t0.toInt64))), (.double (FP.l2d (t1.toInt64))), (.double (FP.l2d (t2.toInt64))), (.double (FP.l2d (t3.toInt64)))] (.double (FP.l2d 0))) (hj : 0 ≤ j.toInt ∧ j.toInt < 4) :
    ∃ cl, Arr Z h a cl .double ∧ ¬ (j < 0 ∨ cl.slots.size ≤ j.toNatClampNeg) ∧ cl.slots[j.toNatClampNeg]? = some (.double (FP.l2d ((own_sel j t0 t1 t2 t3).toInt64))) := by
  obtain ⟨cl, A, -, S, M, H, -⟩ := F
  rcases own_idx hj with rfl | rfl | rfl | rfl
  · have hin := inb_of (j := 0) S ⟨by decide, by decide⟩
    exact ⟨cl, A, hin, H.at hin rfl⟩
  · have hin := inb_of (j := 1) S ⟨by decide, by decide⟩
    exact ⟨cl, A, hin, H.at hin rfl⟩
  · have hin := inb_of (j := 2) S ⟨by decide, by decide⟩
    exact ⟨cl, A, hin, H.at hin rfl⟩
  · have hin := inb_of (j := 3) S ⟨by decide, by decide⟩
    exact ⟨cl, A, hin, H.at hin rfl⟩
theorem d1_0 : decode method_3_code 0 = .ok (.iload_n 0, 1) := by decide +kernel
theorem d1_1 : decode method_3_code 1 = .ok (.ifCond .ne 7, 3) := by decide +kernel
theorem d1_4 : decode method_3_code 4 = .ok (.iconst 0, 1) := by decide +kernel
theorem d1_5 : decode method_3_code 5 = .ok (.newarray .int, 2) := by decide +kernel
theorem tw5 : (Jvm.Cond.arrayClass Jvm.ClassFile.FieldType.int) ∈ tables_1 := List.mem_of_getElem? (i := 5) rfl
theorem d1_7 : decode method_3_code 7 = .ok (.areturn, 1) := by decide +kernel
theorem ef1_0 (m : MethodId) (x1 : Int32) (x2 : Int32) (x3 : Int32) : entryFrame m #[(.int 0), (.int x1), (.int x2), (.int x3)] 4 = mkF m 0 #[.val (.int 0), .val (.int x1), .val (.int x2), .val (.int x3)] [] := by first | (simp [entryFrame, mkF, argsToLocals, Value.category]; done) | rfl
def Q1_0 (Z : State) (p1 : Int32) (p2 : Int32) (p3 : Int32) (h0 : Heap) (n0 : Nat) (v : Option Value) (h : Heap) (L : List Loc) : Prop := ∃ (b : Addr) (k : ClassId), v = some (.ref b) ∧ Fr n0 L ∧ Keep h0 h [] ∧ h0.size ≤ b ∧ Arv Z h b k .int (0 : Int32) [] (.int 0)
theorem pn5 : plainName "com/example/count_calibrated_demand/countcalibrateddemand/CountCorrectionCorrectionPinLaw" = true := by first | (simp [plainName, overriddenIn]; done) | decide +kernel
theorem rm1_0 (l : Launch) (Z : State) (a0 : Array Value) (hw : ∀ d ∈ tables_1, d.before a0 Z = true) (ws : List Jvm.Cond) (p1 : Int32) (p2 : Int32) (p3 : Int32) (h0 : Heap) (n0 : Nat) (Z0 : n0 ≤ h0.size) (O0 : Old Z n0 h0) :
    Met l Z ws (⟨"com/example/count_calibrated_demand/countcalibrateddemand/CountCorrectionCorrectionPinLaw", "metOf", "(IIII)[I"⟩ : MethodName) method_3_code 4 (some (.array .int)) (Rm 0 1 0 0) #[(.int 0), (.int p1), (.int p2), (.int p3)] h0 (Q1_0 Z p1 p2 p3 h0 n0) := by
  refine Met.enter (L0 := #[.val (.int 0), .val (.int p1), .val (.int p2), .val (.int p3)]) (plainFor_of_name pn5) (fun m => ef1_0 m p1 p2 p3) ?_
  intro p e s m below meth c s₁ hx hby hml hown hnm hret hlk hZ X0 e0
  have N0 := Fr.nil n0
  have K0 : Keep h0 h0 [] := Keep.refl h0 _
  refine Go.st (t' := s₁.setTop (mkF m 5 #[.val (.int 0), .val (.int p1), .val (.int p2), .val (.int p3)] [(.int 0)])) (fun target kt => ?_) ?_
  · refine XS.iloadN X0.here hx rfl (hb hby d1_0) rfl ?_
    show Steps p.tables e below (s₁.setTop (mkF m 1 _ [(.int 0)])) target
    refine XS.ifNo X0.here hx rfl (hb hby d1_1) rfl ((if0 _ _).trans (teq (by decide : (0 : Int32) = (0 : Int32))).2) ?_
    show Steps p.tables e below (s₁.setTop (mkF m 4 _ [])) target
    refine XS.iconst X0.here hx rfl (hb hby d1_4) ?_
    exact kt
  obtain ⟨T1, h1, k1, X1, e1, E1, A1, B1, st1⟩ := newPE (aty := .int) X0 hx hZ (hw _ tw5) e0 (g := (mkF m 5 #[.val (.int 0), .val (.int p1), .val (.int p2), .val (.int p3)] [(.int 0)])) rfl (hb hby d1_5) rfl (by decide) (cap := 0) (by decide) (by decide) (by decide) (by decide) (ad := "[I") (by decide)
  obtain ⟨b1, g1⟩ : ∃ z, z = h0.size := ⟨_, rfl⟩
  rw [← g1] at A1 B1 st1
  have lb2 : h0.size ≤ b1 := Nat.le_of_eq g1.symm
  have sz3 : h0.size ≤ b1 := Nat.le_trans K0.1 lb2
  have g4 : n0 ≤ b1 := Nat.le_trans Z0 sz3
  have K5 := K0.ext E1
  have O6 := O0.ext E1
  have V7 : Arv Z h1 b1 k1 .int (0 : Int32) [] (.int 0) := (Arv.new A1 (by decide)).pad (pad_rep [] (.int 0) 0)
  refine Go.st st1 ?_
  show Go _ _ _ _ _ _ _ (T1.setTop (mkF m 7 _ [(.ref b1)]))
  refine Go.ret X1 (v := some (.ref b1)) (fun h => by rw [hret] at h; cases h) hlk (fun fs hr => retR X1 hx hret rfl rfl (hb hby d1_7) hr) ?_ (by decide) (by decide)
  show Q1_0 Z p1 p2 p3 h0 n0 _ T1.heap _
  rw [e1]
  exact ⟨b1, k1, rfl, N0, K5, sz3, V7⟩
theorem d1_8 : decode method_3_code 8 = .ok (.iload_n 0, 1) := by decide +kernel
theorem d1_9 : decode method_3_code 9 = .ok (.iconst 1, 1) := by decide +kernel
theorem d1_10 : decode method_3_code 10 = .ok (.if_icmp .ne 11, 3) := by decide +kernel
theorem d1_13 : decode method_3_code 13 = .ok (.iconst 1, 1) := by decide +kernel
theorem d1_14 : decode method_3_code 14 = .ok (.newarray .int, 2) := by decide +kernel
theorem d1_16 : decode method_3_code 16 = .ok (.dup, 1) := by decide +kernel
theorem d1_17 : decode method_3_code 17 = .ok (.iconst 0, 1) := by decide +kernel
theorem d1_18 : decode method_3_code 18 = .ok (.iload_n 1, 1) := by decide +kernel
theorem d1_19 : decode method_3_code 19 = .ok (.iastore, 1) := by decide +kernel
theorem d1_20 : decode method_3_code 20 = .ok (.areturn, 1) := by decide +kernel
theorem ef1_1 (m : MethodId) (x1 : Int32) (x2 : Int32) (x3 : Int32) : entryFrame m #[(.int 1), (.int x1), (.int x2), (.int x3)] 4 = mkF m 0 #[.val (.int 1), .val (.int x1), .val (.int x2), .val (.int x3)] [] := by first | (simp [entryFrame, mkF, argsToLocals, Value.category]; done) | rfl
def Q1_1 (Z : State) (p1 : Int32) (p2 : Int32) (p3 : Int32) (h0 : Heap) (n0 : Nat) (v : Option Value) (h : Heap) (L : List Loc) : Prop := ∃ (b : Addr) (k : ClassId), v = some (.ref b) ∧ Fr n0 L ∧ Keep h0 h [] ∧ h0.size ≤ b ∧ Arv Z h b k .int (1 : Int32) [(.int p1)] (.int 0)
theorem rm1_1 (l : Launch) (Z : State) (a0 : Array Value) (hw : ∀ d ∈ tables_1, d.before a0 Z = true) (ws : List Jvm.Cond) (p1 : Int32) (p2 : Int32) (p3 : Int32) (h0 : Heap) (n0 : Nat) (Z0 : n0 ≤ h0.size) (O0 : Old Z n0 h0) :
    Met l Z ws (⟨"com/example/count_calibrated_demand/countcalibrateddemand/CountCorrectionCorrectionPinLaw", "metOf", "(IIII)[I"⟩ : MethodName) method_3_code 4 (some (.array .int)) (Rm 0 1 1 0) #[(.int 1), (.int p1), (.int p2), (.int p3)] h0 (Q1_1 Z p1 p2 p3 h0 n0) := by
  refine Met.enter (L0 := #[.val (.int 1), .val (.int p1), .val (.int p2), .val (.int p3)]) (plainFor_of_name pn5) (fun m => ef1_1 m p1 p2 p3) ?_
  intro p e s m below meth c s₁ hx hby hml hown hnm hret hlk hZ X0 e0
  have N0 := Fr.nil n0
  have K0 : Keep h0 h0 [] := Keep.refl h0 _
  refine Go.st (t' := s₁.setTop (mkF m 14 #[.val (.int 1), .val (.int p1), .val (.int p2), .val (.int p3)] [(.int 1)])) (fun target kt => ?_) ?_
  · refine XS.iloadN X0.here hx rfl (hb hby d1_0) rfl ?_
    show Steps p.tables e below (s₁.setTop (mkF m 1 _ [(.int 1)])) target
    refine XS.ifYes X0.here hx rfl (pc0 := 1) (pc' := 8) rfl (hb hby d1_1) rfl ((if0 _ _).trans (feq (by decide : ¬ ((1 : Int32) = (0 : Int32)))).2) (by decide) (by decide) ?_
    show Steps p.tables e below (s₁.setTop (mkF m 8 _ [])) target
    refine XS.iloadN X0.here hx rfl (hb hby d1_8) rfl ?_
    show Steps p.tables e below (s₁.setTop (mkF m 9 _ [(.int 1)])) target
    refine XS.iconst X0.here hx rfl (hb hby d1_9) ?_
    show Steps p.tables e below (s₁.setTop (mkF m 10 _ [(.int 1), (.int 1)])) target
    refine XS.icmpNo X0.here hx rfl (hb hby d1_10) rfl (teq (by decide : (1 : Int32) = (1 : Int32))).2 ?_
    show Steps p.tables e below (s₁.setTop (mkF m 13 _ [])) target
    refine XS.iconst X0.here hx rfl (hb hby d1_13) ?_
    exact kt
  obtain ⟨T1, h1, k1, X1, e1, E1, A1, B1, st1⟩ := newPE (aty := .int) X0 hx hZ (hw _ tw5) e0 (g := (mkF m 14 #[.val (.int 1), .val (.int p1), .val (.int p2), .val (.int p3)] [(.int 1)])) rfl (hb hby d1_14) rfl (by decide) (cap := 1) (by decide) (by decide) (by decide) (by decide) (ad := "[I") (by decide)
  obtain ⟨b1, g1⟩ : ∃ z, z = h0.size := ⟨_, rfl⟩
  rw [← g1] at A1 B1 st1
  have lb2 : h0.size ≤ b1 := Nat.le_of_eq g1.symm
  have sz3 : h0.size ≤ b1 := Nat.le_trans K0.1 lb2
  have g4 : n0 ≤ b1 := Nat.le_trans Z0 sz3
  have K5 := K0.ext E1
  have O6 := O0.ext E1
  have V7 : Arv Z h1 b1 k1 .int (1 : Int32) [(.int 0)] (.int 0) := (Arv.new A1 (by decide)).pad (pad_rep [] (.int 0) 1)
  refine Go.st st1 ?_
  show Go _ _ _ _ _ _ _ (T1.setTop (mkF m 16 _ [(.ref b1)]))
  refine Go.st (t' := T1.setTop (mkF m 19 #[.val (.int 1), .val (.int p1), .val (.int p2), .val (.int p3)] [(.int p1), (.int 0), (.ref b1), (.ref b1)])) (fun target kt => ?_) ?_
  · refine XS.dup X1.here hx rfl (hb hby d1_16) rfl rfl ?_
    show Steps p.tables e below (T1.setTop (mkF m 17 _ [(.ref b1), (.ref b1)])) target
    refine XS.iconst X1.here hx rfl (hb hby d1_17) ?_
    show Steps p.tables e below (T1.setTop (mkF m 18 _ [(.int 0), (.ref b1), (.ref b1)])) target
    refine XS.iloadN X1.here hx rfl (hb hby d1_18) rfl ?_
    exact kt
  obtain ⟨cl8, Ar8, q8, S8, M8, H8, G8⟩ := id V7
  have hin8 : ¬ ((0 : Int32) < 0 ∨ cl8.slots.size ≤ ((0 : Int32)).toNatClampNeg) := inb_of S8 ⟨by decide, by decide⟩
  obtain ⟨T8, h8, X8, e8, W8, st8⟩ := stI X1 hx hZ e1 Ar8 (j := (0 : Int32)) hin8 (g := (mkF m 19 #[.val (.int 1), .val (.int p1), .val (.int p2), .val (.int p3)] [(.int p1), (.int 0), (.ref b1), (.ref b1)])) rfl rfl (hb hby d1_19)
  have V9 : Arv Z h8 b1 k1 .int (1 : Int32) [(.int p1)] (.int 0) := Arv.set Ar8 q8 S8 M8 H8 G8 rfl W8 0 rfl (Nat.le_of_ble_eq_true rfl)
  have K10 := K5.wr W8 (Or.inr sz3)
  have O11 := O6.wr W8 g4
  have N8 := Fr.snoc X8 N0 g4
  refine Go.st st8 ?_
  show Go _ _ _ _ _ _ _ (T8.setTop (mkF m 20 _ [(.ref b1)]))
  refine Go.ret X8 (v := some (.ref b1)) (fun h => by rw [hret] at h; cases h) hlk (fun fs hr => retR X8 hx hret rfl rfl (hb hby d1_20) hr) ?_ (by decide) (by decide)
  show Q1_1 Z p1 p2 p3 h0 n0 _ T8.heap _
  rw [e8]
  exact ⟨b1, k1, rfl, N8, K10, sz3, V9⟩
theorem d1_21 : decode method_3_code 21 = .ok (.iload_n 0, 1) := by decide +kernel
theorem d1_22 : decode method_3_code 22 = .ok (.iconst 2, 1) := by decide +kernel
theorem d1_23 : decode method_3_code 23 = .ok (.if_icmp .ne 15, 3) := by decide +kernel
theorem d1_26 : decode method_3_code 26 = .ok (.iconst 2, 1) := by decide +kernel
theorem d1_27 : decode method_3_code 27 = .ok (.newarray .int, 2) := by decide +kernel
theorem d1_29 : decode method_3_code 29 = .ok (.dup, 1) := by decide +kernel
theorem d1_30 : decode method_3_code 30 = .ok (.iconst 0, 1) := by decide +kernel
theorem d1_31 : decode method_3_code 31 = .ok (.iload_n 1, 1) := by decide +kernel
theorem d1_32 : decode method_3_code 32 = .ok (.iastore, 1) := by decide +kernel
theorem d1_33 : decode method_3_code 33 = .ok (.dup, 1) := by decide +kernel
theorem d1_34 : decode method_3_code 34 = .ok (.iconst 1, 1) := by decide +kernel
theorem d1_35 : decode method_3_code 35 = .ok (.iload_n 2, 1) := by decide +kernel
theorem d1_36 : decode method_3_code 36 = .ok (.iastore, 1) := by decide +kernel
theorem d1_37 : decode method_3_code 37 = .ok (.areturn, 1) := by decide +kernel
theorem ef1_2 (m : MethodId) (x1 : Int32) (x2 : Int32) (x3 : Int32) : entryFrame m #[(.int 2), (.int x1), (.int x2), (.int x3)] 4 = mkF m 0 #[.val (.int 2), .val (.int x1), .val (.int x2), .val (.int x3)] [] := by first | (simp [entryFrame, mkF, argsToLocals, Value.category]; done) | rfl
def Q1_2 (Z : State) (p1 : Int32) (p2 : Int32) (p3 : Int32) (h0 : Heap) (n0 : Nat) (v : Option Value) (h : Heap) (L : List Loc) : Prop := ∃ (b : Addr) (k : ClassId), v = some (.ref b) ∧ Fr n0 L ∧ Keep h0 h [] ∧ h0.size ≤ b ∧ Arv Z h b k .int (2 : Int32) [(.int p1), (.int p2)] (.int 0)
theorem rm1_2 (l : Launch) (Z : State) (a0 : Array Value) (hw : ∀ d ∈ tables_1, d.before a0 Z = true) (ws : List Jvm.Cond) (p1 : Int32) (p2 : Int32) (p3 : Int32) (h0 : Heap) (n0 : Nat) (Z0 : n0 ≤ h0.size) (O0 : Old Z n0 h0) :
    Met l Z ws (⟨"com/example/count_calibrated_demand/countcalibrateddemand/CountCorrectionCorrectionPinLaw", "metOf", "(IIII)[I"⟩ : MethodName) method_3_code 4 (some (.array .int)) (Rm 0 1 2 0) #[(.int 2), (.int p1), (.int p2), (.int p3)] h0 (Q1_2 Z p1 p2 p3 h0 n0) := by
  refine Met.enter (L0 := #[.val (.int 2), .val (.int p1), .val (.int p2), .val (.int p3)]) (plainFor_of_name pn5) (fun m => ef1_2 m p1 p2 p3) ?_
  intro p e s m below meth c s₁ hx hby hml hown hnm hret hlk hZ X0 e0
  have N0 := Fr.nil n0
  have K0 : Keep h0 h0 [] := Keep.refl h0 _
  refine Go.st (t' := s₁.setTop (mkF m 27 #[.val (.int 2), .val (.int p1), .val (.int p2), .val (.int p3)] [(.int 2)])) (fun target kt => ?_) ?_
  · refine XS.iloadN X0.here hx rfl (hb hby d1_0) rfl ?_
    show Steps p.tables e below (s₁.setTop (mkF m 1 _ [(.int 2)])) target
    refine XS.ifYes X0.here hx rfl (pc0 := 1) (pc' := 8) rfl (hb hby d1_1) rfl ((if0 _ _).trans (feq (by decide : ¬ ((2 : Int32) = (0 : Int32)))).2) (by decide) (by decide) ?_
    show Steps p.tables e below (s₁.setTop (mkF m 8 _ [])) target
    refine XS.iloadN X0.here hx rfl (hb hby d1_8) rfl ?_
    show Steps p.tables e below (s₁.setTop (mkF m 9 _ [(.int 2)])) target
    refine XS.iconst X0.here hx rfl (hb hby d1_9) ?_
    show Steps p.tables e below (s₁.setTop (mkF m 10 _ [(.int 1), (.int 2)])) target
    refine XS.icmpYes X0.here hx rfl (pc0 := 10) (pc' := 21) rfl (hb hby d1_10) rfl (feq (by decide : ¬ ((2 : Int32) = (1 : Int32)))).2 (by decide) (by decide) ?_
    show Steps p.tables e below (s₁.setTop (mkF m 21 _ [])) target
    refine XS.iloadN X0.here hx rfl (hb hby d1_21) rfl ?_
    show Steps p.tables e below (s₁.setTop (mkF m 22 _ [(.int 2)])) target
    refine XS.iconst X0.here hx rfl (hb hby d1_22) ?_
    show Steps p.tables e below (s₁.setTop (mkF m 23 _ [(.int 2), (.int 2)])) target
    refine XS.icmpNo X0.here hx rfl (hb hby d1_23) rfl (teq (by decide : (2 : Int32) = (2 : Int32))).2 ?_
    show Steps p.tables e below (s₁.setTop (mkF m 26 _ [])) target
    refine XS.iconst X0.here hx rfl (hb hby d1_26) ?_
    exact kt
  obtain ⟨T1, h1, k1, X1, e1, E1, A1, B1, st1⟩ := newPE (aty := .int) X0 hx hZ (hw _ tw5) e0 (g := (mkF m 27 #[.val (.int 2), .val (.int p1), .val (.int p2), .val (.int p3)] [(.int 2)])) rfl (hb hby d1_27) rfl (by decide) (cap := 2) (by decide) (by decide) (by decide) (by decide) (ad := "[I") (by decide)
  obtain ⟨b1, g1⟩ : ∃ z, z = h0.size := ⟨_, rfl⟩
  rw [← g1] at A1 B1 st1
  have lb2 : h0.size ≤ b1 := Nat.le_of_eq g1.symm
  have sz3 : h0.size ≤ b1 := Nat.le_trans K0.1 lb2
  have g4 : n0 ≤ b1 := Nat.le_trans Z0 sz3
  have K5 := K0.ext E1
  have O6 := O0.ext E1
  have V7 : Arv Z h1 b1 k1 .int (2 : Int32) [(.int 0), (.int 0)] (.int 0) := (Arv.new A1 (by decide)).pad (pad_rep [] (.int 0) 2)
  refine Go.st st1 ?_
  show Go _ _ _ _ _ _ _ (T1.setTop (mkF m 29 _ [(.ref b1)]))
  refine Go.st (t' := T1.setTop (mkF m 32 #[.val (.int 2), .val (.int p1), .val (.int p2), .val (.int p3)] [(.int p1), (.int 0), (.ref b1), (.ref b1)])) (fun target kt => ?_) ?_
  · refine XS.dup X1.here hx rfl (hb hby d1_29) rfl rfl ?_
    show Steps p.tables e below (T1.setTop (mkF m 30 _ [(.ref b1), (.ref b1)])) target
    refine XS.iconst X1.here hx rfl (hb hby d1_30) ?_
    show Steps p.tables e below (T1.setTop (mkF m 31 _ [(.int 0), (.ref b1), (.ref b1)])) target
    refine XS.iloadN X1.here hx rfl (hb hby d1_31) rfl ?_
    exact kt
  obtain ⟨cl8, Ar8, q8, S8, M8, H8, G8⟩ := id V7
  have hin8 : ¬ ((0 : Int32) < 0 ∨ cl8.slots.size ≤ ((0 : Int32)).toNatClampNeg) := inb_of S8 ⟨by decide, by decide⟩
  obtain ⟨T8, h8, X8, e8, W8, st8⟩ := stI X1 hx hZ e1 Ar8 (j := (0 : Int32)) hin8 (g := (mkF m 32 #[.val (.int 2), .val (.int p1), .val (.int p2), .val (.int p3)] [(.int p1), (.int 0), (.ref b1), (.ref b1)])) rfl rfl (hb hby d1_32)
  have V9 : Arv Z h8 b1 k1 .int (2 : Int32) [(.int p1), (.int 0)] (.int 0) := Arv.set Ar8 q8 S8 M8 H8 G8 rfl W8 0 rfl (Nat.le_of_ble_eq_true rfl)
  have K10 := K5.wr W8 (Or.inr sz3)
  have O11 := O6.wr W8 g4
  have N8 := Fr.snoc X8 N0 g4
  refine Go.st st8 ?_
  show Go _ _ _ _ _ _ _ (T8.setTop (mkF m 33 _ [(.ref b1)]))
  refine Go.st (t' := T8.setTop (mkF m 36 #[.val (.int 2), .val (.int p1), .val (.int p2), .val (.int p3)] [(.int p2), (.int 1), (.ref b1), (.ref b1)])) (fun target kt => ?_) ?_
  · refine XS.dup X8.here hx rfl (hb hby d1_33) rfl rfl ?_
    show Steps p.tables e below (T8.setTop (mkF m 34 _ [(.ref b1), (.ref b1)])) target
    refine XS.iconst X8.here hx rfl (hb hby d1_34) ?_
    show Steps p.tables e below (T8.setTop (mkF m 35 _ [(.int 1), (.ref b1), (.ref b1)])) target
    refine XS.iloadN X8.here hx rfl (hb hby d1_35) rfl ?_
    exact kt
  obtain ⟨cl12, Ar12, q12, S12, M12, H12, G12⟩ := id V9
  have hin12 : ¬ ((1 : Int32) < 0 ∨ cl12.slots.size ≤ ((1 : Int32)).toNatClampNeg) := inb_of S12 ⟨by decide, by decide⟩
  obtain ⟨T12, h12, X12, e12, W12, st12⟩ := stI X8 hx hZ e8 Ar12 (j := (1 : Int32)) hin12 (g := (mkF m 36 #[.val (.int 2), .val (.int p1), .val (.int p2), .val (.int p3)] [(.int p2), (.int 1), (.ref b1), (.ref b1)])) rfl rfl (hb hby d1_36)
  have V13 : Arv Z h12 b1 k1 .int (2 : Int32) [(.int p1), (.int p2)] (.int 0) := Arv.set Ar12 q12 S12 M12 H12 G12 rfl W12 1 rfl (Nat.le_of_ble_eq_true rfl)
  have K14 := K10.wr W12 (Or.inr sz3)
  have O15 := O11.wr W12 g4
  have N12 := Fr.snoc X12 N8 g4
  refine Go.st st12 ?_
  show Go _ _ _ _ _ _ _ (T12.setTop (mkF m 37 _ [(.ref b1)]))
  refine Go.ret X12 (v := some (.ref b1)) (fun h => by rw [hret] at h; cases h) hlk (fun fs hr => retR X12 hx hret rfl rfl (hb hby d1_37) hr) ?_ (by decide) (by decide)
  show Q1_2 Z p1 p2 p3 h0 n0 _ T12.heap _
  rw [e12]
  exact ⟨b1, k1, rfl, N12, K14, sz3, V13⟩
theorem d1_38 : decode method_3_code 38 = .ok (.iconst 3, 1) := by decide +kernel
theorem d1_39 : decode method_3_code 39 = .ok (.newarray .int, 2) := by decide +kernel
theorem d1_41 : decode method_3_code 41 = .ok (.dup, 1) := by decide +kernel
theorem d1_42 : decode method_3_code 42 = .ok (.iconst 0, 1) := by decide +kernel
theorem d1_43 : decode method_3_code 43 = .ok (.iload_n 1, 1) := by decide +kernel
theorem d1_44 : decode method_3_code 44 = .ok (.iastore, 1) := by decide +kernel
theorem d1_45 : decode method_3_code 45 = .ok (.dup, 1) := by decide +kernel
theorem d1_46 : decode method_3_code 46 = .ok (.iconst 1, 1) := by decide +kernel
theorem d1_47 : decode method_3_code 47 = .ok (.iload_n 2, 1) := by decide +kernel
theorem d1_48 : decode method_3_code 48 = .ok (.iastore, 1) := by decide +kernel
theorem d1_49 : decode method_3_code 49 = .ok (.dup, 1) := by decide +kernel
theorem d1_50 : decode method_3_code 50 = .ok (.iconst 2, 1) := by decide +kernel
theorem d1_51 : decode method_3_code 51 = .ok (.iload_n 3, 1) := by decide +kernel
theorem d1_52 : decode method_3_code 52 = .ok (.iastore, 1) := by decide +kernel
theorem d1_53 : decode method_3_code 53 = .ok (.areturn, 1) := by decide +kernel
theorem ef1_3 (m : MethodId) (x1 : Int32) (x2 : Int32) (x3 : Int32) : entryFrame m #[(.int 3), (.int x1), (.int x2), (.int x3)] 4 = mkF m 0 #[.val (.int 3), .val (.int x1), .val (.int x2), .val (.int x3)] [] := by first | (simp [entryFrame, mkF, argsToLocals, Value.category]; done) | rfl
def Q1_3 (Z : State) (p1 : Int32) (p2 : Int32) (p3 : Int32) (h0 : Heap) (n0 : Nat) (v : Option Value) (h : Heap) (L : List Loc) : Prop := ∃ (b : Addr) (k : ClassId), v = some (.ref b) ∧ Fr n0 L ∧ Keep h0 h [] ∧ h0.size ≤ b ∧ Arv Z h b k .int (3 : Int32) [(.int p1), (.int p2), (.int p3)] (.int 0)
theorem rm1_3 (l : Launch) (Z : State) (a0 : Array Value) (hw : ∀ d ∈ tables_1, d.before a0 Z = true) (ws : List Jvm.Cond) (p1 : Int32) (p2 : Int32) (p3 : Int32) (h0 : Heap) (n0 : Nat) (Z0 : n0 ≤ h0.size) (O0 : Old Z n0 h0) :
    Met l Z ws (⟨"com/example/count_calibrated_demand/countcalibrateddemand/CountCorrectionCorrectionPinLaw", "metOf", "(IIII)[I"⟩ : MethodName) method_3_code 4 (some (.array .int)) (Rm 0 1 3 0) #[(.int 3), (.int p1), (.int p2), (.int p3)] h0 (Q1_3 Z p1 p2 p3 h0 n0) := by
  refine Met.enter (L0 := #[.val (.int 3), .val (.int p1), .val (.int p2), .val (.int p3)]) (plainFor_of_name pn5) (fun m => ef1_3 m p1 p2 p3) ?_
  intro p e s m below meth c s₁ hx hby hml hown hnm hret hlk hZ X0 e0
  have N0 := Fr.nil n0
  have K0 : Keep h0 h0 [] := Keep.refl h0 _
  refine Go.st (t' := s₁.setTop (mkF m 39 #[.val (.int 3), .val (.int p1), .val (.int p2), .val (.int p3)] [(.int 3)])) (fun target kt => ?_) ?_
  · refine XS.iloadN X0.here hx rfl (hb hby d1_0) rfl ?_
    show Steps p.tables e below (s₁.setTop (mkF m 1 _ [(.int 3)])) target
    refine XS.ifYes X0.here hx rfl (pc0 := 1) (pc' := 8) rfl (hb hby d1_1) rfl ((if0 _ _).trans (feq (by decide : ¬ ((3 : Int32) = (0 : Int32)))).2) (by decide) (by decide) ?_
    show Steps p.tables e below (s₁.setTop (mkF m 8 _ [])) target
    refine XS.iloadN X0.here hx rfl (hb hby d1_8) rfl ?_
    show Steps p.tables e below (s₁.setTop (mkF m 9 _ [(.int 3)])) target
    refine XS.iconst X0.here hx rfl (hb hby d1_9) ?_
    show Steps p.tables e below (s₁.setTop (mkF m 10 _ [(.int 1), (.int 3)])) target
    refine XS.icmpYes X0.here hx rfl (pc0 := 10) (pc' := 21) rfl (hb hby d1_10) rfl (feq (by decide : ¬ ((3 : Int32) = (1 : Int32)))).2 (by decide) (by decide) ?_
    show Steps p.tables e below (s₁.setTop (mkF m 21 _ [])) target
    refine XS.iloadN X0.here hx rfl (hb hby d1_21) rfl ?_
    show Steps p.tables e below (s₁.setTop (mkF m 22 _ [(.int 3)])) target
    refine XS.iconst X0.here hx rfl (hb hby d1_22) ?_
    show Steps p.tables e below (s₁.setTop (mkF m 23 _ [(.int 2), (.int 3)])) target
    refine XS.icmpYes X0.here hx rfl (pc0 := 23) (pc' := 38) rfl (hb hby d1_23) rfl (feq (by decide : ¬ ((3 : Int32) = (2 : Int32)))).2 (by decide) (by decide) ?_
    show Steps p.tables e below (s₁.setTop (mkF m 38 _ [])) target
    refine XS.iconst X0.here hx rfl (hb hby d1_38) ?_
    exact kt
  obtain ⟨T1, h1, k1, X1, e1, E1, A1, B1, st1⟩ := newPE (aty := .int) X0 hx hZ (hw _ tw5) e0 (g := (mkF m 39 #[.val (.int 3), .val (.int p1), .val (.int p2), .val (.int p3)] [(.int 3)])) rfl (hb hby d1_39) rfl (by decide) (cap := 3) (by decide) (by decide) (by decide) (by decide) (ad := "[I") (by decide)
  obtain ⟨b1, g1⟩ : ∃ z, z = h0.size := ⟨_, rfl⟩
  rw [← g1] at A1 B1 st1
  have lb2 : h0.size ≤ b1 := Nat.le_of_eq g1.symm
  have sz3 : h0.size ≤ b1 := Nat.le_trans K0.1 lb2
  have g4 : n0 ≤ b1 := Nat.le_trans Z0 sz3
  have K5 := K0.ext E1
  have O6 := O0.ext E1
  have V7 : Arv Z h1 b1 k1 .int (3 : Int32) [(.int 0), (.int 0), (.int 0)] (.int 0) := (Arv.new A1 (by decide)).pad (pad_rep [] (.int 0) 3)
  refine Go.st st1 ?_
  show Go _ _ _ _ _ _ _ (T1.setTop (mkF m 41 _ [(.ref b1)]))
  refine Go.st (t' := T1.setTop (mkF m 44 #[.val (.int 3), .val (.int p1), .val (.int p2), .val (.int p3)] [(.int p1), (.int 0), (.ref b1), (.ref b1)])) (fun target kt => ?_) ?_
  · refine XS.dup X1.here hx rfl (hb hby d1_41) rfl rfl ?_
    show Steps p.tables e below (T1.setTop (mkF m 42 _ [(.ref b1), (.ref b1)])) target
    refine XS.iconst X1.here hx rfl (hb hby d1_42) ?_
    show Steps p.tables e below (T1.setTop (mkF m 43 _ [(.int 0), (.ref b1), (.ref b1)])) target
    refine XS.iloadN X1.here hx rfl (hb hby d1_43) rfl ?_
    exact kt
  obtain ⟨cl8, Ar8, q8, S8, M8, H8, G8⟩ := id V7
  have hin8 : ¬ ((0 : Int32) < 0 ∨ cl8.slots.size ≤ ((0 : Int32)).toNatClampNeg) := inb_of S8 ⟨by decide, by decide⟩
  obtain ⟨T8, h8, X8, e8, W8, st8⟩ := stI X1 hx hZ e1 Ar8 (j := (0 : Int32)) hin8 (g := (mkF m 44 #[.val (.int 3), .val (.int p1), .val (.int p2), .val (.int p3)] [(.int p1), (.int 0), (.ref b1), (.ref b1)])) rfl rfl (hb hby d1_44)
  have V9 : Arv Z h8 b1 k1 .int (3 : Int32) [(.int p1), (.int 0), (.int 0)] (.int 0) := Arv.set Ar8 q8 S8 M8 H8 G8 rfl W8 0 rfl (Nat.le_of_ble_eq_true rfl)
  have K10 := K5.wr W8 (Or.inr sz3)
  have O11 := O6.wr W8 g4
  have N8 := Fr.snoc X8 N0 g4
  refine Go.st st8 ?_
  show Go _ _ _ _ _ _ _ (T8.setTop (mkF m 45 _ [(.ref b1)]))
  refine Go.st (t' := T8.setTop (mkF m 48 #[.val (.int 3), .val (.int p1), .val (.int p2), .val (.int p3)] [(.int p2), (.int 1), (.ref b1), (.ref b1)])) (fun target kt => ?_) ?_
  · refine XS.dup X8.here hx rfl (hb hby d1_45) rfl rfl ?_
    show Steps p.tables e below (T8.setTop (mkF m 46 _ [(.ref b1), (.ref b1)])) target
    refine XS.iconst X8.here hx rfl (hb hby d1_46) ?_
    show Steps p.tables e below (T8.setTop (mkF m 47 _ [(.int 1), (.ref b1), (.ref b1)])) target
    refine XS.iloadN X8.here hx rfl (hb hby d1_47) rfl ?_
    exact kt
  obtain ⟨cl12, Ar12, q12, S12, M12, H12, G12⟩ := id V9
  have hin12 : ¬ ((1 : Int32) < 0 ∨ cl12.slots.size ≤ ((1 : Int32)).toNatClampNeg) := inb_of S12 ⟨by decide, by decide⟩
  obtain ⟨T12, h12, X12, e12, W12, st12⟩ := stI X8 hx hZ e8 Ar12 (j := (1 : Int32)) hin12 (g := (mkF m 48 #[.val (.int 3), .val (.int p1), .val (.int p2), .val (.int p3)] [(.int p2), (.int 1), (.ref b1), (.ref b1)])) rfl rfl (hb hby d1_48)
  have V13 : Arv Z h12 b1 k1 .int (3 : Int32) [(.int p1), (.int p2), (.int 0)] (.int 0) := Arv.set Ar12 q12 S12 M12 H12 G12 rfl W12 1 rfl (Nat.le_of_ble_eq_true rfl)
  have K14 := K10.wr W12 (Or.inr sz3)
  have O15 := O11.wr W12 g4
  have N12 := Fr.snoc X12 N8 g4
  refine Go.st st12 ?_
  show Go _ _ _ _ _ _ _ (T12.setTop (mkF m 49 _ [(.ref b1)]))
  refine Go.st (t' := T12.setTop (mkF m 52 #[.val (.int 3), .val (.int p1), .val (.int p2), .val (.int p3)] [(.int p3), (.int 2), (.ref b1), (.ref b1)])) (fun target kt => ?_) ?_
  · refine XS.dup X12.here hx rfl (hb hby d1_49) rfl rfl ?_
    show Steps p.tables e below (T12.setTop (mkF m 50 _ [(.ref b1), (.ref b1)])) target
    refine XS.iconst X12.here hx rfl (hb hby d1_50) ?_
    show Steps p.tables e below (T12.setTop (mkF m 51 _ [(.int 2), (.ref b1), (.ref b1)])) target
    refine XS.iloadN X12.here hx rfl (hb hby d1_51) rfl ?_
    exact kt
  obtain ⟨cl16, Ar16, q16, S16, M16, H16, G16⟩ := id V13
  have hin16 : ¬ ((2 : Int32) < 0 ∨ cl16.slots.size ≤ ((2 : Int32)).toNatClampNeg) := inb_of S16 ⟨by decide, by decide⟩
  obtain ⟨T16, h16, X16, e16, W16, st16⟩ := stI X12 hx hZ e12 Ar16 (j := (2 : Int32)) hin16 (g := (mkF m 52 #[.val (.int 3), .val (.int p1), .val (.int p2), .val (.int p3)] [(.int p3), (.int 2), (.ref b1), (.ref b1)])) rfl rfl (hb hby d1_52)
  have V17 : Arv Z h16 b1 k1 .int (3 : Int32) [(.int p1), (.int p2), (.int p3)] (.int 0) := Arv.set Ar16 q16 S16 M16 H16 G16 rfl W16 2 rfl (Nat.le_of_ble_eq_true rfl)
  have K18 := K14.wr W16 (Or.inr sz3)
  have O19 := O15.wr W16 g4
  have N16 := Fr.snoc X16 N12 g4
  refine Go.st st16 ?_
  show Go _ _ _ _ _ _ _ (T16.setTop (mkF m 53 _ [(.ref b1)]))
  refine Go.ret X16 (v := some (.ref b1)) (fun h => by rw [hret] at h; cases h) hlk (fun fs hr => retR X16 hx hret rfl rfl (hb hby d1_53) hr) ?_ (by decide) (by decide)
  show Q1_3 Z p1 p2 p3 h0 n0 _ T16.heap _
  rw [e16]
  exact ⟨b1, k1, rfl, N16, K18, sz3, V17⟩
theorem d3_0 : decode method_4_code 0 = .ok (.iload_n 0, 1) := by decide +kernel
theorem d3_1 : decode method_4_code 1 = .ok (.ifCond .ne 6, 3) := by decide +kernel
theorem d3_4 : decode method_4_code 4 = .ok (.iload_n 1, 1) := by decide +kernel
theorem d3_5 : decode method_4_code 5 = .ok (.i2l, 1) := by decide +kernel
theorem d3_6 : decode method_4_code 6 = .ok (.lreturn, 1) := by decide +kernel
theorem d3_7 : decode method_4_code 7 = .ok (.iload_n 0, 1) := by decide +kernel
theorem d3_8 : decode method_4_code 8 = .ok (.iconst 1, 1) := by decide +kernel
theorem d3_9 : decode method_4_code 9 = .ok (.if_icmp .ne 6, 3) := by decide +kernel
theorem d3_12 : decode method_4_code 12 = .ok (.iload_n 2, 1) := by decide +kernel
theorem d3_13 : decode method_4_code 13 = .ok (.i2l, 1) := by decide +kernel
theorem d3_14 : decode method_4_code 14 = .ok (.lreturn, 1) := by decide +kernel
theorem d3_15 : decode method_4_code 15 = .ok (.iload_n 0, 1) := by decide +kernel
theorem d3_16 : decode method_4_code 16 = .ok (.iconst 2, 1) := by decide +kernel
theorem d3_17 : decode method_4_code 17 = .ok (.if_icmp .ne 6, 3) := by decide +kernel
theorem d3_20 : decode method_4_code 20 = .ok (.iload_n 3, 1) := by decide +kernel
theorem d3_21 : decode method_4_code 21 = .ok (.i2l, 1) := by decide +kernel
theorem d3_22 : decode method_4_code 22 = .ok (.lreturn, 1) := by decide +kernel
theorem d3_23 : decode method_4_code 23 = .ok (.iload 4, 2) := by decide +kernel
theorem d3_25 : decode method_4_code 25 = .ok (.i2l, 1) := by decide +kernel
theorem d3_26 : decode method_4_code 26 = .ok (.lreturn, 1) := by decide +kernel
theorem ef3 (m : MethodId) (x0 : Int32) (x1 : Int32) (x2 : Int32) (x3 : Int32) (x4 : Int32) : entryFrame m #[(.int x0), (.int x1), (.int x2), (.int x3), (.int x4)] 5 = mkF m 0 #[.val (.int x0), .val (.int x1), .val (.int x2), .val (.int x3), .val (.int x4)] [] := by first | (simp [entryFrame, mkF, argsToLocals, Value.category]; done) | rfl
def Q3 (Z : State) (p0 : Int32) (p1 : Int32) (p2 : Int32) (p3 : Int32) (p4 : Int32) (h0 : Heap) (n0 : Nat) (v : Option Value) (h : Heap) (L : List Loc) : Prop := v = some (.long ((own_sel p0 p1 p2 p3 p4).toInt64)) ∧ Fr n0 L ∧ h = h0
theorem rm3 (l : Launch) (Z : State) (a0 : Array Value) (hw : ∀ d ∈ tables_1, d.before a0 Z = true) (ws : List Jvm.Cond) (p0 : Int32) (p1 : Int32) (p2 : Int32) (p3 : Int32) (p4 : Int32) (h0 : Heap) (n0 : Nat) (Z0 : n0 ≤ h0.size) (O0 : Old Z n0 h0) :
    Met l Z ws (⟨"com/example/count_calibrated_demand/countcalibrateddemand/CountCorrectionCorrectionPinLaw", "pick", "(IIIII)J"⟩ : MethodName) method_4_code 5 (some .long) (Rm 0 0 0 0) #[(.int p0), (.int p1), (.int p2), (.int p3), (.int p4)] h0 (Q3 Z p0 p1 p2 p3 p4 h0 n0) := by
  refine Met.enter (L0 := #[.val (.int p0), .val (.int p1), .val (.int p2), .val (.int p3), .val (.int p4)]) (plainFor_of_name pn5) (fun m => ef3 m p0 p1 p2 p3 p4) ?_
  intro p e s m below meth c s₁ hx hby hml hown hnm hret hlk hZ X0 e0
  have N0 := Fr.nil n0
  have K0 : Keep h0 h0 [] := Keep.refl h0 _
  refine Go.st (t' := s₁.setTop (mkF m 1 #[.val (.int p0), .val (.int p1), .val (.int p2), .val (.int p3), .val (.int p4)] [(.int p0)])) (fun target kt => ?_) ?_
  · refine XS.iloadN X0.here hx rfl (hb hby d3_0) rfl ?_
    exact kt
  rcases Classical.em (p0 = (0 : Int32)) with hc1 | hc1
  · refine Go.st (t' := s₁.setTop (mkF m 6 #[.val (.int p0), .val (.int p1), .val (.int p2), .val (.int p3), .val (.int p4)] [(.long (p1.toInt64))])) (fun target kt => ?_) ?_
    · refine XS.ifNo X0.here hx rfl (hb hby d3_1) rfl ((if0 _ _).trans (teq hc1).2) ?_
      show Steps p.tables e below (s₁.setTop (mkF m 4 _ [])) target
      refine XS.iloadN X0.here hx rfl (hb hby d3_4) rfl ?_
      show Steps p.tables e below (s₁.setTop (mkF m 5 _ [(.int p1)])) target
      refine XS.i2l X0.here hx rfl (hb hby d3_5) rfl ?_
      exact kt
    refine Go.ret X0 (v := some (.long (p1.toInt64))) (fun h => by rw [hret] at h; cases h) hlk (fun fs hr => retJ X0 hx hret (hb hby d3_6) hr) ?_ (by decide) (by decide)
    show Q3 Z p0 p1 p2 p3 p4 h0 n0 _ s₁.heap _
    rw [e0]
    exact ⟨(by simp [own_sel, hc1]), N0, rfl⟩
  · refine Go.st (t' := s₁.setTop (mkF m 9 #[.val (.int p0), .val (.int p1), .val (.int p2), .val (.int p3), .val (.int p4)] [(.int 1), (.int p0)])) (fun target kt => ?_) ?_
    · refine XS.ifYes X0.here hx rfl (pc0 := 1) (pc' := 7) rfl (hb hby d3_1) rfl ((if0 _ _).trans (feq hc1).2) (by decide) (by decide) ?_
      show Steps p.tables e below (s₁.setTop (mkF m 7 _ [])) target
      refine XS.iloadN X0.here hx rfl (hb hby d3_7) rfl ?_
      show Steps p.tables e below (s₁.setTop (mkF m 8 _ [(.int p0)])) target
      refine XS.iconst X0.here hx rfl (hb hby d3_8) ?_
      exact kt
    rcases Classical.em (p0 = (1 : Int32)) with hc2 | hc2
    · refine Go.st (t' := s₁.setTop (mkF m 14 #[.val (.int p0), .val (.int p1), .val (.int p2), .val (.int p3), .val (.int p4)] [(.long (p2.toInt64))])) (fun target kt => ?_) ?_
      · refine XS.icmpNo X0.here hx rfl (hb hby d3_9) rfl (teq hc2).2 ?_
        show Steps p.tables e below (s₁.setTop (mkF m 12 _ [])) target
        refine XS.iloadN X0.here hx rfl (hb hby d3_12) rfl ?_
        show Steps p.tables e below (s₁.setTop (mkF m 13 _ [(.int p2)])) target
        refine XS.i2l X0.here hx rfl (hb hby d3_13) rfl ?_
        exact kt
      refine Go.ret X0 (v := some (.long (p2.toInt64))) (fun h => by rw [hret] at h; cases h) hlk (fun fs hr => retJ X0 hx hret (hb hby d3_14) hr) ?_ (by decide) (by decide)
      show Q3 Z p0 p1 p2 p3 p4 h0 n0 _ s₁.heap _
      rw [e0]
      exact ⟨(by simp [own_sel, hc1, hc2]), N0, rfl⟩
    · refine Go.st (t' := s₁.setTop (mkF m 17 #[.val (.int p0), .val (.int p1), .val (.int p2), .val (.int p3), .val (.int p4)] [(.int 2), (.int p0)])) (fun target kt => ?_) ?_
      · refine XS.icmpYes X0.here hx rfl (pc0 := 9) (pc' := 15) rfl (hb hby d3_9) rfl (feq hc2).2 (by decide) (by decide) ?_
        show Steps p.tables e below (s₁.setTop (mkF m 15 _ [])) target
        refine XS.iloadN X0.here hx rfl (hb hby d3_15) rfl ?_
        show Steps p.tables e below (s₁.setTop (mkF m 16 _ [(.int p0)])) target
        refine XS.iconst X0.here hx rfl (hb hby d3_16) ?_
        exact kt
      rcases Classical.em (p0 = (2 : Int32)) with hc3 | hc3
      · refine Go.st (t' := s₁.setTop (mkF m 22 #[.val (.int p0), .val (.int p1), .val (.int p2), .val (.int p3), .val (.int p4)] [(.long (p3.toInt64))])) (fun target kt => ?_) ?_
        · refine XS.icmpNo X0.here hx rfl (hb hby d3_17) rfl (teq hc3).2 ?_
          show Steps p.tables e below (s₁.setTop (mkF m 20 _ [])) target
          refine XS.iloadN X0.here hx rfl (hb hby d3_20) rfl ?_
          show Steps p.tables e below (s₁.setTop (mkF m 21 _ [(.int p3)])) target
          refine XS.i2l X0.here hx rfl (hb hby d3_21) rfl ?_
          exact kt
        refine Go.ret X0 (v := some (.long (p3.toInt64))) (fun h => by rw [hret] at h; cases h) hlk (fun fs hr => retJ X0 hx hret (hb hby d3_22) hr) ?_ (by decide) (by decide)
        show Q3 Z p0 p1 p2 p3 p4 h0 n0 _ s₁.heap _
        rw [e0]
        exact ⟨(by simp [own_sel, hc1, hc2, hc3]), N0, rfl⟩
      · refine Go.st (t' := s₁.setTop (mkF m 26 #[.val (.int p0), .val (.int p1), .val (.int p2), .val (.int p3), .val (.int p4)] [(.long (p4.toInt64))])) (fun target kt => ?_) ?_
        · refine XS.icmpYes X0.here hx rfl (pc0 := 17) (pc' := 23) rfl (hb hby d3_17) rfl (feq hc3).2 (by decide) (by decide) ?_
          show Steps p.tables e below (s₁.setTop (mkF m 23 _ [])) target
          refine XS.iload X0.here hx rfl (hb hby d3_23) rfl ?_
          show Steps p.tables e below (s₁.setTop (mkF m 25 _ [(.int p4)])) target
          refine XS.i2l X0.here hx rfl (hb hby d3_25) rfl ?_
          exact kt
        refine Go.ret X0 (v := some (.long (p4.toInt64))) (fun h => by rw [hret] at h; cases h) hlk (fun fs hr => retJ X0 hx hret (hb hby d3_26) hr) ?_ (by decide) (by decide)
        show Q3 Z p0 p1 p2 p3 p4 h0 n0 _ s₁.heap _
        rw [e0]
        exact ⟨(by simp [own_sel, hc1, hc2, hc3]), N0, rfl⟩
theorem d2_0 : decode prog_11_method_4_code 0 = .ok (.dconst 0, 1) := by decide +kernel
theorem d2_1 : decode prog_11_method_4_code 1 = .ok (.dstore_n 2, 1) := by decide +kernel
theorem d2_2 : decode prog_11_method_4_code 2 = .ok (.aload_n 0, 1) := by decide +kernel
theorem d2_3 : decode prog_11_method_4_code 3 = .ok (.astore 4, 2) := by decide +kernel
theorem d2_5 : decode prog_11_method_4_code 5 = .ok (.aload 4, 2) := by decide +kernel
theorem d2_7 : decode prog_11_method_4_code 7 = .ok (.arraylength, 1) := by decide +kernel
theorem d2_8 : decode prog_11_method_4_code 8 = .ok (.istore 5, 2) := by decide +kernel
theorem d2_10 : decode prog_11_method_4_code 10 = .ok (.iconst 0, 1) := by decide +kernel
theorem d2_11 : decode prog_11_method_4_code 11 = .ok (.istore 6, 2) := by decide +kernel
theorem d2_13 : decode prog_11_method_4_code 13 = .ok (.iload 6, 2) := by decide +kernel
theorem d2_15 : decode prog_11_method_4_code 15 = .ok (.iload 5, 2) := by decide +kernel
theorem d2_17 : decode prog_11_method_4_code 17 = .ok (.if_icmp .ge 23, 3) := by decide +kernel
theorem d2_40 : decode prog_11_method_4_code 40 = .ok (.dload_n 2, 1) := by decide +kernel
theorem d2_41 : decode prog_11_method_4_code 41 = .ok (.dreturn, 1) := by decide +kernel
theorem ef2_0 (m : MethodId) (x0 : Addr) (x1 : Addr) : entryFrame m #[(.ref x0), (.ref x1)] 8 = mkF m 0 #[.val (.ref x0), .val (.ref x1), .unset, .unset, .unset, .unset, .unset, .unset] [] := by first | (simp [entryFrame, mkF, argsToLocals, Value.category]; done) | rfl
def Q2_0 (Z : State) (am : Addr) (at_ : Addr) (km : ClassId) (kt_ : ClassId) (t0 : Int32) (t1 : Int32) (t2 : Int32) (t3 : Int32) (h0 : Heap) (n0 : Nat) (v : Option Value) (h : Heap) (L : List Loc) : Prop := v = some (.double (FP.l2d (0 : Int64))) ∧ Fr n0 L ∧ h = h0
theorem pn79 : plainName "com/example/count_calibrated_demand/countcalibrateddemand/CountCorrection" = true := by first | (simp [plainName, overriddenIn]; done) | decide +kernel
theorem rm2_0 (l : Launch) (Z : State) (a0 : Array Value) (hw : ∀ d ∈ tables_1, d.before a0 Z = true) (ws : List Jvm.Cond) (am : Addr) (at_ : Addr) (km : ClassId) (kt_ : ClassId) (t0 : Int32) (t1 : Int32) (t2 : Int32) (t3 : Int32) (h0 : Heap) (n0 : Nat) (Z0 : n0 ≤ h0.size) (O0 : Old Z n0 h0) (Vm : Arv Z h0 am km .int (0 : Int32) [] (.int 0)) (Vt : Arv Z h0 at_ kt_ .double (4 : Int32) [(.double (FP.l2d (t0.toInt64))), (.double (FP.l2d (t1.toInt64))), (.double (FP.l2d (t2.toInt64))), (.double (FP.l2d (t3.toInt64)))] (.double (FP.l2d 0))) :
    Met l Z ws (⟨"com/example/count_calibrated_demand/countcalibrateddemand/CountCorrection", "correction", "([I[D)D"⟩ : MethodName) prog_11_method_4_code 8 (some .double) (Rm 0 0 0 0) #[(.ref am), (.ref at_)] h0 (Q2_0 Z am at_ km kt_ t0 t1 t2 t3 h0 n0) := by
  refine Met.enter (L0 := #[.val (.ref am), .val (.ref at_), .unset, .unset, .unset, .unset, .unset, .unset]) (plainFor_of_name pn79) (fun m => ef2_0 m am at_) ?_
  intro p e s m below meth c s₁ hx hby hml hown hnm hret hlk hZ X0 e0
  have N0 := Fr.nil n0
  have K0 : Keep h0 h0 [] := Keep.refl h0 _
  obtain ⟨cl1, Ar1, -, S1, M1, -, -⟩ := id Vm
  refine Go.st (t' := s₁.setTop (mkF m 41 #[.val (.ref am), .val (.ref at_), .val (.double (FP.l2d (0 : Int64))), .second, .val (.ref am), .val (.int 0), .val (.int 0), .unset] [(.double (FP.l2d (0 : Int64)))])) (fun target kt => ?_) ?_
  · refine XS.dconst0 X0.here hx rfl (v := (FP.l2d (0 : Int64))) (hb hby d2_0) (by decide +kernel) ?_
    show Steps p.tables e below (s₁.setTop (mkF m 1 _ [(.double (FP.l2d (0 : Int64)))])) target
    refine XS.dstoreN X0.here hx rfl (hb hby d2_1) rfl (l' := #[.val (.ref am), .val (.ref at_), .val (.double (FP.l2d (0 : Int64))), .second, .unset, .unset, .unset, .unset]) rfl ?_
    show Steps p.tables e below (s₁.setTop (mkF m 2 _ [])) target
    refine XS.aloadN X0.here hx rfl (hb hby d2_2) rfl rfl ?_
    show Steps p.tables e below (s₁.setTop (mkF m 3 _ [(.ref am)])) target
    refine XS.astore X0.here hx rfl (hb hby d2_3) rfl rfl (l' := #[.val (.ref am), .val (.ref at_), .val (.double (FP.l2d (0 : Int64))), .second, .val (.ref am), .unset, .unset, .unset]) rfl ?_
    show Steps p.tables e below (s₁.setTop (mkF m 5 _ [])) target
    refine XS.aload X0.here hx rfl (hb hby d2_5) rfl rfl ?_
    show Steps p.tables e below (s₁.setTop (mkF m 7 _ [(.ref am)])) target
    refine X0.arraylength hx (by rw [e0]; exact Ar1.1) (State.isArrayOf_alike hZ.alike Ar1.2.1) (g := (mkF m 7 #[.val (.ref am), .val (.ref at_), .val (.double (FP.l2d (0 : Int64))), .second, .val (.ref am), .unset, .unset, .unset] [(.ref am)])) rfl rfl (hb hby d2_7) _ ?_
    rw [len_of S1 M1]
    show Steps p.tables e below (s₁.setTop (mkF m 8 _ [(.int 0)])) target
    refine XS.istore X0.here hx rfl (hb hby d2_8) rfl (l' := #[.val (.ref am), .val (.ref at_), .val (.double (FP.l2d (0 : Int64))), .second, .val (.ref am), .val (.int 0), .unset, .unset]) rfl ?_
    show Steps p.tables e below (s₁.setTop (mkF m 10 _ [])) target
    refine XS.iconst X0.here hx rfl (hb hby d2_10) ?_
    show Steps p.tables e below (s₁.setTop (mkF m 11 _ [(.int 0)])) target
    refine XS.istore X0.here hx rfl (hb hby d2_11) rfl (l' := #[.val (.ref am), .val (.ref at_), .val (.double (FP.l2d (0 : Int64))), .second, .val (.ref am), .val (.int 0), .val (.int 0), .unset]) rfl ?_
    show Steps p.tables e below (s₁.setTop (mkF m 13 _ [])) target
    refine XS.iload X0.here hx rfl (hb hby d2_13) rfl ?_
    show Steps p.tables e below (s₁.setTop (mkF m 15 _ [(.int 0)])) target
    refine XS.iload X0.here hx rfl (hb hby d2_15) rfl ?_
    show Steps p.tables e below (s₁.setTop (mkF m 17 _ [(.int 0), (.int 0)])) target
    refine XS.icmpYes X0.here hx rfl (pc0 := 17) (pc' := 40) rfl (hb hby d2_17) rfl (flt (by decide : ¬ ((0 : Int32) < (0 : Int32)))).2.1 (by decide) (by decide) ?_
    show Steps p.tables e below (s₁.setTop (mkF m 40 _ [])) target
    refine XS.dloadN X0.here hx rfl (hb hby d2_40) rfl ?_
    exact kt
  refine Go.ret X0 (v := some (.double (FP.l2d (0 : Int64)))) (fun h => by rw [hret] at h; cases h) hlk (fun fs hr => retD X0 hx hret (hb hby d2_41) hr) ?_ (by decide) (by decide)
  show Q2_0 Z am at_ km kt_ t0 t1 t2 t3 h0 n0 _ s₁.heap _
  rw [e0]
  exact ⟨rfl, N0, rfl⟩
theorem d2_20 : decode prog_11_method_4_code 20 = .ok (.aload 4, 2) := by decide +kernel
theorem d2_22 : decode prog_11_method_4_code 22 = .ok (.iload 6, 2) := by decide +kernel
theorem d2_24 : decode prog_11_method_4_code 24 = .ok (.iaload, 1) := by decide +kernel
theorem d2_25 : decode prog_11_method_4_code 25 = .ok (.istore 7, 2) := by decide +kernel
theorem d2_27 : decode prog_11_method_4_code 27 = .ok (.dload_n 2, 1) := by decide +kernel
theorem d2_28 : decode prog_11_method_4_code 28 = .ok (.aload_n 1, 1) := by decide +kernel
theorem d2_29 : decode prog_11_method_4_code 29 = .ok (.iload 7, 2) := by decide +kernel
theorem d2_31 : decode prog_11_method_4_code 31 = .ok (.daload, 1) := by decide +kernel
theorem d2_32 : decode prog_11_method_4_code 32 = .ok (.dadd, 1) := by decide +kernel
theorem d2_33 : decode prog_11_method_4_code 33 = .ok (.dstore_n 2, 1) := by decide +kernel
theorem d2_34 : decode prog_11_method_4_code 34 = .ok (.iinc 6 1, 3) := by decide +kernel
theorem d2_37 : decode prog_11_method_4_code 37 = .ok (.goto (-24), 3) := by decide +kernel
theorem ef2_1 (m : MethodId) (x0 : Addr) (x1 : Addr) : entryFrame m #[(.ref x0), (.ref x1)] 8 = mkF m 0 #[.val (.ref x0), .val (.ref x1), .unset, .unset, .unset, .unset, .unset, .unset] [] := by first | (simp [entryFrame, mkF, argsToLocals, Value.category]; done) | rfl
def Q2_1 (Z : State) (am : Addr) (at_ : Addr) (km : ClassId) (kt_ : ClassId) (j1 : Int32) (t0 : Int32) (t1 : Int32) (t2 : Int32) (t3 : Int32) (h0 : Heap) (n0 : Nat) (v : Option Value) (h : Heap) (L : List Loc) : Prop := v = some (.double (FP.l2d ((0 : Int64) + ((own_sel j1 t0 t1 t2 t3).toInt64)))) ∧ Fr n0 L ∧ h = h0
theorem rm2_1 (l : Launch) (Z : State) (a0 : Array Value) (hw : ∀ d ∈ tables_1, d.before a0 Z = true) (ws : List Jvm.Cond) (am : Addr) (at_ : Addr) (km : ClassId) (kt_ : ClassId) (j1 : Int32) (t0 : Int32) (t1 : Int32) (t2 : Int32) (t3 : Int32) (h0 : Heap) (n0 : Nat) (Z0 : n0 ≤ h0.size) (O0 : Old Z n0 h0) (Vm : Arv Z h0 am km .int (1 : Int32) [(.int j1)] (.int 0)) (Vt : Arv Z h0 at_ kt_ .double (4 : Int32) [(.double (FP.l2d (t0.toInt64))), (.double (FP.l2d (t1.toInt64))), (.double (FP.l2d (t2.toInt64))), (.double (FP.l2d (t3.toInt64)))] (.double (FP.l2d 0))) (hb_j1 : 0 ≤ j1.toInt ∧ j1.toInt < 4) :
    Met l Z ws (⟨"com/example/count_calibrated_demand/countcalibrateddemand/CountCorrection", "correction", "([I[D)D"⟩ : MethodName) prog_11_method_4_code 8 (some .double) (Rm 0 0 0 0) #[(.ref am), (.ref at_)] h0 (Q2_1 Z am at_ km kt_ j1 t0 t1 t2 t3 h0 n0) := by
  refine Met.enter (L0 := #[.val (.ref am), .val (.ref at_), .unset, .unset, .unset, .unset, .unset, .unset]) (plainFor_of_name pn79) (fun m => ef2_1 m am at_) ?_
  intro p e s m below meth c s₁ hx hby hml hown hnm hret hlk hZ X0 e0
  have N0 := Fr.nil n0
  have K0 : Keep h0 h0 [] := Keep.refl h0 _
  obtain ⟨cl1, Ar1, -, S1, M1, -, -⟩ := id Vm
  obtain ⟨cl2, Ar2, -, S2, M2, H2, -⟩ := id Vm
  have hin2 : ¬ ((0 : Int32) < 0 ∨ cl2.slots.size ≤ ((0 : Int32)).toNatClampNeg) := inb_of S2 ⟨by decide, by decide⟩
  have hat2 : cl2.slots[((0 : Int32)).toNatClampNeg]? = some (.int j1) := H2.at hin2 rfl
  obtain ⟨cl3, Ar3, hin3, hat3⟩ := own_read Vt hb_j1
  refine Go.st (t' := s₁.setTop (mkF m 41 #[.val (.ref am), .val (.ref at_), .val (.double (FP.l2d ((0 : Int64) + ((own_sel j1 t0 t1 t2 t3).toInt64)))), .second, .val (.ref am), .val (.int 1), .val (.int 1), .val (.int j1)] [(.double (FP.l2d ((0 : Int64) + ((own_sel j1 t0 t1 t2 t3).toInt64))))])) (fun target kt => ?_) ?_
  · refine XS.dconst0 X0.here hx rfl (v := (FP.l2d (0 : Int64))) (hb hby d2_0) (by decide +kernel) ?_
    show Steps p.tables e below (s₁.setTop (mkF m 1 _ [(.double (FP.l2d (0 : Int64)))])) target
    refine XS.dstoreN X0.here hx rfl (hb hby d2_1) rfl (l' := #[.val (.ref am), .val (.ref at_), .val (.double (FP.l2d (0 : Int64))), .second, .unset, .unset, .unset, .unset]) rfl ?_
    show Steps p.tables e below (s₁.setTop (mkF m 2 _ [])) target
    refine XS.aloadN X0.here hx rfl (hb hby d2_2) rfl rfl ?_
    show Steps p.tables e below (s₁.setTop (mkF m 3 _ [(.ref am)])) target
    refine XS.astore X0.here hx rfl (hb hby d2_3) rfl rfl (l' := #[.val (.ref am), .val (.ref at_), .val (.double (FP.l2d (0 : Int64))), .second, .val (.ref am), .unset, .unset, .unset]) rfl ?_
    show Steps p.tables e below (s₁.setTop (mkF m 5 _ [])) target
    refine XS.aload X0.here hx rfl (hb hby d2_5) rfl rfl ?_
    show Steps p.tables e below (s₁.setTop (mkF m 7 _ [(.ref am)])) target
    refine X0.arraylength hx (by rw [e0]; exact Ar1.1) (State.isArrayOf_alike hZ.alike Ar1.2.1) (g := (mkF m 7 #[.val (.ref am), .val (.ref at_), .val (.double (FP.l2d (0 : Int64))), .second, .val (.ref am), .unset, .unset, .unset] [(.ref am)])) rfl rfl (hb hby d2_7) _ ?_
    rw [len_of S1 M1]
    show Steps p.tables e below (s₁.setTop (mkF m 8 _ [(.int 1)])) target
    refine XS.istore X0.here hx rfl (hb hby d2_8) rfl (l' := #[.val (.ref am), .val (.ref at_), .val (.double (FP.l2d (0 : Int64))), .second, .val (.ref am), .val (.int 1), .unset, .unset]) rfl ?_
    show Steps p.tables e below (s₁.setTop (mkF m 10 _ [])) target
    refine XS.iconst X0.here hx rfl (hb hby d2_10) ?_
    show Steps p.tables e below (s₁.setTop (mkF m 11 _ [(.int 0)])) target
    refine XS.istore X0.here hx rfl (hb hby d2_11) rfl (l' := #[.val (.ref am), .val (.ref at_), .val (.double (FP.l2d (0 : Int64))), .second, .val (.ref am), .val (.int 1), .val (.int 0), .unset]) rfl ?_
    show Steps p.tables e below (s₁.setTop (mkF m 13 _ [])) target
    refine XS.iload X0.here hx rfl (hb hby d2_13) rfl ?_
    show Steps p.tables e below (s₁.setTop (mkF m 15 _ [(.int 0)])) target
    refine XS.iload X0.here hx rfl (hb hby d2_15) rfl ?_
    show Steps p.tables e below (s₁.setTop (mkF m 17 _ [(.int 1), (.int 0)])) target
    refine XS.icmpNo X0.here hx rfl (hb hby d2_17) rfl (tlt (by decide : (0 : Int32) < (1 : Int32))).2.1 ?_
    show Steps p.tables e below (s₁.setTop (mkF m 20 _ [])) target
    refine XS.aload X0.here hx rfl (hb hby d2_20) rfl rfl ?_
    show Steps p.tables e below (s₁.setTop (mkF m 22 _ [(.ref am)])) target
    refine XS.iload X0.here hx rfl (hb hby d2_22) rfl ?_
    show Steps p.tables e below (s₁.setTop (mkF m 24 _ [(.int 0), (.ref am)])) target
    refine X0.iaload hx (j := (0 : Int32)) (v := (.int j1)) (by rw [e0]; exact Ar2.1) (State.isArrayOf_alike hZ.alike Ar2.2.1) Ar2.2.2 hin2 hat2 (g := (mkF m 24 #[.val (.ref am), .val (.ref at_), .val (.double (FP.l2d (0 : Int64))), .second, .val (.ref am), .val (.int 1), .val (.int 0), .unset] [(.int 0), (.ref am)])) rfl rfl (hb hby d2_24) _ ?_
    show Steps p.tables e below (s₁.setTop (mkF m 25 _ [(.int j1)])) target
    refine XS.istore X0.here hx rfl (hb hby d2_25) rfl (l' := #[.val (.ref am), .val (.ref at_), .val (.double (FP.l2d (0 : Int64))), .second, .val (.ref am), .val (.int 1), .val (.int 0), .val (.int j1)]) rfl ?_
    show Steps p.tables e below (s₁.setTop (mkF m 27 _ [])) target
    refine XS.dloadN X0.here hx rfl (hb hby d2_27) rfl ?_
    show Steps p.tables e below (s₁.setTop (mkF m 28 _ [(.double (FP.l2d (0 : Int64)))])) target
    refine XS.aloadN X0.here hx rfl (hb hby d2_28) rfl rfl ?_
    show Steps p.tables e below (s₁.setTop (mkF m 29 _ [(.ref at_), (.double (FP.l2d (0 : Int64)))])) target
    refine XS.iload X0.here hx rfl (hb hby d2_29) rfl ?_
    show Steps p.tables e below (s₁.setTop (mkF m 31 _ [(.int j1), (.ref at_), (.double (FP.l2d (0 : Int64)))])) target
    refine X0.daload hx (j := j1) (v := (.double (FP.l2d ((own_sel j1 t0 t1 t2 t3).toInt64)))) (by rw [e0]; exact Ar3.1) (State.isArrayOf_alike hZ.alike Ar3.2.1) Ar3.2.2 hin3 hat3 (g := (mkF m 31 #[.val (.ref am), .val (.ref at_), .val (.double (FP.l2d (0 : Int64))), .second, .val (.ref am), .val (.int 1), .val (.int 0), .val (.int j1)] [(.int j1), (.ref at_), (.double (FP.l2d (0 : Int64)))])) rfl rfl (hb hby d2_31) _ ?_
    show Steps p.tables e below (s₁.setTop (mkF m 32 _ [(.double (FP.l2d ((own_sel j1 t0 t1 t2 t3).toInt64))), (.double (FP.l2d (0 : Int64)))])) target
    refine XS.daddS X0.here hx rfl (hb hby d2_32) rfl (nn_w (dadd_w own_b0 (own_b1 (own_sel j1 t0 t1 t2 t3)))) (dadd_w own_b0 (own_b1 (own_sel j1 t0 t1 t2 t3))) ?_
    show Steps p.tables e below (s₁.setTop (mkF m 33 _ [(.double (FP.l2d ((0 : Int64) + ((own_sel j1 t0 t1 t2 t3).toInt64))))])) target
    refine XS.dstoreN X0.here hx rfl (hb hby d2_33) rfl (l' := #[.val (.ref am), .val (.ref at_), .val (.double (FP.l2d ((0 : Int64) + ((own_sel j1 t0 t1 t2 t3).toInt64)))), .second, .val (.ref am), .val (.int 1), .val (.int 0), .val (.int j1)]) rfl ?_
    show Steps p.tables e below (s₁.setTop (mkF m 34 _ [])) target
    refine XS.iinc X0.here hx rfl (hb hby d2_34) rfl (l' := #[.val (.ref am), .val (.ref at_), .val (.double (FP.l2d ((0 : Int64) + ((own_sel j1 t0 t1 t2 t3).toInt64)))), .second, .val (.ref am), .val (.int 1), .val (.int 1), .val (.int j1)]) rfl ?_
    show Steps p.tables e below (s₁.setTop (mkF m 37 _ [])) target
    refine XS.goto X0.here hx rfl (pc0 := 37) (pc' := 13) rfl (hb hby d2_37) (by decide) (by decide) ?_
    show Steps p.tables e below (s₁.setTop (mkF m 13 _ [])) target
    refine XS.iload X0.here hx rfl (hb hby d2_13) rfl ?_
    show Steps p.tables e below (s₁.setTop (mkF m 15 _ [(.int 1)])) target
    refine XS.iload X0.here hx rfl (hb hby d2_15) rfl ?_
    show Steps p.tables e below (s₁.setTop (mkF m 17 _ [(.int 1), (.int 1)])) target
    refine XS.icmpYes X0.here hx rfl (pc0 := 17) (pc' := 40) rfl (hb hby d2_17) rfl (flt (by decide : ¬ ((1 : Int32) < (1 : Int32)))).2.1 (by decide) (by decide) ?_
    show Steps p.tables e below (s₁.setTop (mkF m 40 _ [])) target
    refine XS.dloadN X0.here hx rfl (hb hby d2_40) rfl ?_
    exact kt
  refine Go.ret X0 (v := some (.double (FP.l2d ((0 : Int64) + ((own_sel j1 t0 t1 t2 t3).toInt64))))) (fun h => by rw [hret] at h; cases h) hlk (fun fs hr => retD X0 hx hret (hb hby d2_41) hr) ?_ (by decide) (by decide)
  show Q2_1 Z am at_ km kt_ j1 t0 t1 t2 t3 h0 n0 _ s₁.heap _
  rw [e0]
  exact ⟨rfl, N0, rfl⟩
theorem ef2_2 (m : MethodId) (x0 : Addr) (x1 : Addr) : entryFrame m #[(.ref x0), (.ref x1)] 8 = mkF m 0 #[.val (.ref x0), .val (.ref x1), .unset, .unset, .unset, .unset, .unset, .unset] [] := by first | (simp [entryFrame, mkF, argsToLocals, Value.category]; done) | rfl
def Q2_2 (Z : State) (am : Addr) (at_ : Addr) (km : ClassId) (kt_ : ClassId) (j1 : Int32) (j2 : Int32) (t0 : Int32) (t1 : Int32) (t2 : Int32) (t3 : Int32) (h0 : Heap) (n0 : Nat) (v : Option Value) (h : Heap) (L : List Loc) : Prop := v = some (.double (FP.l2d (((0 : Int64) + ((own_sel j1 t0 t1 t2 t3).toInt64)) + ((own_sel j2 t0 t1 t2 t3).toInt64)))) ∧ Fr n0 L ∧ h = h0
theorem rm2_2 (l : Launch) (Z : State) (a0 : Array Value) (hw : ∀ d ∈ tables_1, d.before a0 Z = true) (ws : List Jvm.Cond) (am : Addr) (at_ : Addr) (km : ClassId) (kt_ : ClassId) (j1 : Int32) (j2 : Int32) (t0 : Int32) (t1 : Int32) (t2 : Int32) (t3 : Int32) (h0 : Heap) (n0 : Nat) (Z0 : n0 ≤ h0.size) (O0 : Old Z n0 h0) (Vm : Arv Z h0 am km .int (2 : Int32) [(.int j1), (.int j2)] (.int 0)) (Vt : Arv Z h0 at_ kt_ .double (4 : Int32) [(.double (FP.l2d (t0.toInt64))), (.double (FP.l2d (t1.toInt64))), (.double (FP.l2d (t2.toInt64))), (.double (FP.l2d (t3.toInt64)))] (.double (FP.l2d 0))) (hb_j1 : 0 ≤ j1.toInt ∧ j1.toInt < 4) (hb_j2 : 0 ≤ j2.toInt ∧ j2.toInt < 4) :
    Met l Z ws (⟨"com/example/count_calibrated_demand/countcalibrateddemand/CountCorrection", "correction", "([I[D)D"⟩ : MethodName) prog_11_method_4_code 8 (some .double) (Rm 0 0 0 0) #[(.ref am), (.ref at_)] h0 (Q2_2 Z am at_ km kt_ j1 j2 t0 t1 t2 t3 h0 n0) := by
  refine Met.enter (L0 := #[.val (.ref am), .val (.ref at_), .unset, .unset, .unset, .unset, .unset, .unset]) (plainFor_of_name pn79) (fun m => ef2_2 m am at_) ?_
  intro p e s m below meth c s₁ hx hby hml hown hnm hret hlk hZ X0 e0
  have N0 := Fr.nil n0
  have K0 : Keep h0 h0 [] := Keep.refl h0 _
  obtain ⟨cl1, Ar1, -, S1, M1, -, -⟩ := id Vm
  obtain ⟨cl2, Ar2, -, S2, M2, H2, -⟩ := id Vm
  have hin2 : ¬ ((0 : Int32) < 0 ∨ cl2.slots.size ≤ ((0 : Int32)).toNatClampNeg) := inb_of S2 ⟨by decide, by decide⟩
  have hat2 : cl2.slots[((0 : Int32)).toNatClampNeg]? = some (.int j1) := H2.at hin2 rfl
  obtain ⟨cl3, Ar3, hin3, hat3⟩ := own_read Vt hb_j1
  obtain ⟨cl4, Ar4, -, S4, M4, H4, -⟩ := id Vm
  have hin4 : ¬ ((1 : Int32) < 0 ∨ cl4.slots.size ≤ ((1 : Int32)).toNatClampNeg) := inb_of S4 ⟨by decide, by decide⟩
  have hat4 : cl4.slots[((1 : Int32)).toNatClampNeg]? = some (.int j2) := H4.at hin4 rfl
  obtain ⟨cl5, Ar5, hin5, hat5⟩ := own_read Vt hb_j2
  refine Go.st (t' := s₁.setTop (mkF m 41 #[.val (.ref am), .val (.ref at_), .val (.double (FP.l2d (((0 : Int64) + ((own_sel j1 t0 t1 t2 t3).toInt64)) + ((own_sel j2 t0 t1 t2 t3).toInt64)))), .second, .val (.ref am), .val (.int 2), .val (.int 2), .val (.int j2)] [(.double (FP.l2d (((0 : Int64) + ((own_sel j1 t0 t1 t2 t3).toInt64)) + ((own_sel j2 t0 t1 t2 t3).toInt64))))])) (fun target kt => ?_) ?_
  · refine XS.dconst0 X0.here hx rfl (v := (FP.l2d (0 : Int64))) (hb hby d2_0) (by decide +kernel) ?_
    show Steps p.tables e below (s₁.setTop (mkF m 1 _ [(.double (FP.l2d (0 : Int64)))])) target
    refine XS.dstoreN X0.here hx rfl (hb hby d2_1) rfl (l' := #[.val (.ref am), .val (.ref at_), .val (.double (FP.l2d (0 : Int64))), .second, .unset, .unset, .unset, .unset]) rfl ?_
    show Steps p.tables e below (s₁.setTop (mkF m 2 _ [])) target
    refine XS.aloadN X0.here hx rfl (hb hby d2_2) rfl rfl ?_
    show Steps p.tables e below (s₁.setTop (mkF m 3 _ [(.ref am)])) target
    refine XS.astore X0.here hx rfl (hb hby d2_3) rfl rfl (l' := #[.val (.ref am), .val (.ref at_), .val (.double (FP.l2d (0 : Int64))), .second, .val (.ref am), .unset, .unset, .unset]) rfl ?_
    show Steps p.tables e below (s₁.setTop (mkF m 5 _ [])) target
    refine XS.aload X0.here hx rfl (hb hby d2_5) rfl rfl ?_
    show Steps p.tables e below (s₁.setTop (mkF m 7 _ [(.ref am)])) target
    refine X0.arraylength hx (by rw [e0]; exact Ar1.1) (State.isArrayOf_alike hZ.alike Ar1.2.1) (g := (mkF m 7 #[.val (.ref am), .val (.ref at_), .val (.double (FP.l2d (0 : Int64))), .second, .val (.ref am), .unset, .unset, .unset] [(.ref am)])) rfl rfl (hb hby d2_7) _ ?_
    rw [len_of S1 M1]
    show Steps p.tables e below (s₁.setTop (mkF m 8 _ [(.int 2)])) target
    refine XS.istore X0.here hx rfl (hb hby d2_8) rfl (l' := #[.val (.ref am), .val (.ref at_), .val (.double (FP.l2d (0 : Int64))), .second, .val (.ref am), .val (.int 2), .unset, .unset]) rfl ?_
    show Steps p.tables e below (s₁.setTop (mkF m 10 _ [])) target
    refine XS.iconst X0.here hx rfl (hb hby d2_10) ?_
    show Steps p.tables e below (s₁.setTop (mkF m 11 _ [(.int 0)])) target
    refine XS.istore X0.here hx rfl (hb hby d2_11) rfl (l' := #[.val (.ref am), .val (.ref at_), .val (.double (FP.l2d (0 : Int64))), .second, .val (.ref am), .val (.int 2), .val (.int 0), .unset]) rfl ?_
    show Steps p.tables e below (s₁.setTop (mkF m 13 _ [])) target
    refine XS.iload X0.here hx rfl (hb hby d2_13) rfl ?_
    show Steps p.tables e below (s₁.setTop (mkF m 15 _ [(.int 0)])) target
    refine XS.iload X0.here hx rfl (hb hby d2_15) rfl ?_
    show Steps p.tables e below (s₁.setTop (mkF m 17 _ [(.int 2), (.int 0)])) target
    refine XS.icmpNo X0.here hx rfl (hb hby d2_17) rfl (tlt (by decide : (0 : Int32) < (2 : Int32))).2.1 ?_
    show Steps p.tables e below (s₁.setTop (mkF m 20 _ [])) target
    refine XS.aload X0.here hx rfl (hb hby d2_20) rfl rfl ?_
    show Steps p.tables e below (s₁.setTop (mkF m 22 _ [(.ref am)])) target
    refine XS.iload X0.here hx rfl (hb hby d2_22) rfl ?_
    show Steps p.tables e below (s₁.setTop (mkF m 24 _ [(.int 0), (.ref am)])) target
    refine X0.iaload hx (j := (0 : Int32)) (v := (.int j1)) (by rw [e0]; exact Ar2.1) (State.isArrayOf_alike hZ.alike Ar2.2.1) Ar2.2.2 hin2 hat2 (g := (mkF m 24 #[.val (.ref am), .val (.ref at_), .val (.double (FP.l2d (0 : Int64))), .second, .val (.ref am), .val (.int 2), .val (.int 0), .unset] [(.int 0), (.ref am)])) rfl rfl (hb hby d2_24) _ ?_
    show Steps p.tables e below (s₁.setTop (mkF m 25 _ [(.int j1)])) target
    refine XS.istore X0.here hx rfl (hb hby d2_25) rfl (l' := #[.val (.ref am), .val (.ref at_), .val (.double (FP.l2d (0 : Int64))), .second, .val (.ref am), .val (.int 2), .val (.int 0), .val (.int j1)]) rfl ?_
    show Steps p.tables e below (s₁.setTop (mkF m 27 _ [])) target
    refine XS.dloadN X0.here hx rfl (hb hby d2_27) rfl ?_
    show Steps p.tables e below (s₁.setTop (mkF m 28 _ [(.double (FP.l2d (0 : Int64)))])) target
    refine XS.aloadN X0.here hx rfl (hb hby d2_28) rfl rfl ?_
    show Steps p.tables e below (s₁.setTop (mkF m 29 _ [(.ref at_), (.double (FP.l2d (0 : Int64)))])) target
    refine XS.iload X0.here hx rfl (hb hby d2_29) rfl ?_
    show Steps p.tables e below (s₁.setTop (mkF m 31 _ [(.int j1), (.ref at_), (.double (FP.l2d (0 : Int64)))])) target
    refine X0.daload hx (j := j1) (v := (.double (FP.l2d ((own_sel j1 t0 t1 t2 t3).toInt64)))) (by rw [e0]; exact Ar3.1) (State.isArrayOf_alike hZ.alike Ar3.2.1) Ar3.2.2 hin3 hat3 (g := (mkF m 31 #[.val (.ref am), .val (.ref at_), .val (.double (FP.l2d (0 : Int64))), .second, .val (.ref am), .val (.int 2), .val (.int 0), .val (.int j1)] [(.int j1), (.ref at_), (.double (FP.l2d (0 : Int64)))])) rfl rfl (hb hby d2_31) _ ?_
    show Steps p.tables e below (s₁.setTop (mkF m 32 _ [(.double (FP.l2d ((own_sel j1 t0 t1 t2 t3).toInt64))), (.double (FP.l2d (0 : Int64)))])) target
    refine XS.daddS X0.here hx rfl (hb hby d2_32) rfl (nn_w (dadd_w own_b0 (own_b1 (own_sel j1 t0 t1 t2 t3)))) (dadd_w own_b0 (own_b1 (own_sel j1 t0 t1 t2 t3))) ?_
    show Steps p.tables e below (s₁.setTop (mkF m 33 _ [(.double (FP.l2d ((0 : Int64) + ((own_sel j1 t0 t1 t2 t3).toInt64))))])) target
    refine XS.dstoreN X0.here hx rfl (hb hby d2_33) rfl (l' := #[.val (.ref am), .val (.ref at_), .val (.double (FP.l2d ((0 : Int64) + ((own_sel j1 t0 t1 t2 t3).toInt64)))), .second, .val (.ref am), .val (.int 2), .val (.int 0), .val (.int j1)]) rfl ?_
    show Steps p.tables e below (s₁.setTop (mkF m 34 _ [])) target
    refine XS.iinc X0.here hx rfl (hb hby d2_34) rfl (l' := #[.val (.ref am), .val (.ref at_), .val (.double (FP.l2d ((0 : Int64) + ((own_sel j1 t0 t1 t2 t3).toInt64)))), .second, .val (.ref am), .val (.int 2), .val (.int 1), .val (.int j1)]) rfl ?_
    show Steps p.tables e below (s₁.setTop (mkF m 37 _ [])) target
    refine XS.goto X0.here hx rfl (pc0 := 37) (pc' := 13) rfl (hb hby d2_37) (by decide) (by decide) ?_
    show Steps p.tables e below (s₁.setTop (mkF m 13 _ [])) target
    refine XS.iload X0.here hx rfl (hb hby d2_13) rfl ?_
    show Steps p.tables e below (s₁.setTop (mkF m 15 _ [(.int 1)])) target
    refine XS.iload X0.here hx rfl (hb hby d2_15) rfl ?_
    show Steps p.tables e below (s₁.setTop (mkF m 17 _ [(.int 2), (.int 1)])) target
    refine XS.icmpNo X0.here hx rfl (hb hby d2_17) rfl (tlt (by decide : (1 : Int32) < (2 : Int32))).2.1 ?_
    show Steps p.tables e below (s₁.setTop (mkF m 20 _ [])) target
    refine XS.aload X0.here hx rfl (hb hby d2_20) rfl rfl ?_
    show Steps p.tables e below (s₁.setTop (mkF m 22 _ [(.ref am)])) target
    refine XS.iload X0.here hx rfl (hb hby d2_22) rfl ?_
    show Steps p.tables e below (s₁.setTop (mkF m 24 _ [(.int 1), (.ref am)])) target
    refine X0.iaload hx (j := (1 : Int32)) (v := (.int j2)) (by rw [e0]; exact Ar4.1) (State.isArrayOf_alike hZ.alike Ar4.2.1) Ar4.2.2 hin4 hat4 (g := (mkF m 24 #[.val (.ref am), .val (.ref at_), .val (.double (FP.l2d ((0 : Int64) + ((own_sel j1 t0 t1 t2 t3).toInt64)))), .second, .val (.ref am), .val (.int 2), .val (.int 1), .val (.int j1)] [(.int 1), (.ref am)])) rfl rfl (hb hby d2_24) _ ?_
    show Steps p.tables e below (s₁.setTop (mkF m 25 _ [(.int j2)])) target
    refine XS.istore X0.here hx rfl (hb hby d2_25) rfl (l' := #[.val (.ref am), .val (.ref at_), .val (.double (FP.l2d ((0 : Int64) + ((own_sel j1 t0 t1 t2 t3).toInt64)))), .second, .val (.ref am), .val (.int 2), .val (.int 1), .val (.int j2)]) rfl ?_
    show Steps p.tables e below (s₁.setTop (mkF m 27 _ [])) target
    refine XS.dloadN X0.here hx rfl (hb hby d2_27) rfl ?_
    show Steps p.tables e below (s₁.setTop (mkF m 28 _ [(.double (FP.l2d ((0 : Int64) + ((own_sel j1 t0 t1 t2 t3).toInt64))))])) target
    refine XS.aloadN X0.here hx rfl (hb hby d2_28) rfl rfl ?_
    show Steps p.tables e below (s₁.setTop (mkF m 29 _ [(.ref at_), (.double (FP.l2d ((0 : Int64) + ((own_sel j1 t0 t1 t2 t3).toInt64))))])) target
    refine XS.iload X0.here hx rfl (hb hby d2_29) rfl ?_
    show Steps p.tables e below (s₁.setTop (mkF m 31 _ [(.int j2), (.ref at_), (.double (FP.l2d ((0 : Int64) + ((own_sel j1 t0 t1 t2 t3).toInt64))))])) target
    refine X0.daload hx (j := j2) (v := (.double (FP.l2d ((own_sel j2 t0 t1 t2 t3).toInt64)))) (by rw [e0]; exact Ar5.1) (State.isArrayOf_alike hZ.alike Ar5.2.1) Ar5.2.2 hin5 hat5 (g := (mkF m 31 #[.val (.ref am), .val (.ref at_), .val (.double (FP.l2d ((0 : Int64) + ((own_sel j1 t0 t1 t2 t3).toInt64)))), .second, .val (.ref am), .val (.int 2), .val (.int 1), .val (.int j2)] [(.int j2), (.ref at_), (.double (FP.l2d ((0 : Int64) + ((own_sel j1 t0 t1 t2 t3).toInt64))))])) rfl rfl (hb hby d2_31) _ ?_
    show Steps p.tables e below (s₁.setTop (mkF m 32 _ [(.double (FP.l2d ((own_sel j2 t0 t1 t2 t3).toInt64))), (.double (FP.l2d ((0 : Int64) + ((own_sel j1 t0 t1 t2 t3).toInt64))))])) target
    refine XS.daddS X0.here hx rfl (hb hby d2_32) rfl (nn_w (dadd_w (own_s1 (own_sel j1 t0 t1 t2 t3)) (own_b1 (own_sel j2 t0 t1 t2 t3)))) (dadd_w (own_s1 (own_sel j1 t0 t1 t2 t3)) (own_b1 (own_sel j2 t0 t1 t2 t3))) ?_
    show Steps p.tables e below (s₁.setTop (mkF m 33 _ [(.double (FP.l2d (((0 : Int64) + ((own_sel j1 t0 t1 t2 t3).toInt64)) + ((own_sel j2 t0 t1 t2 t3).toInt64))))])) target
    refine XS.dstoreN X0.here hx rfl (hb hby d2_33) rfl (l' := #[.val (.ref am), .val (.ref at_), .val (.double (FP.l2d (((0 : Int64) + ((own_sel j1 t0 t1 t2 t3).toInt64)) + ((own_sel j2 t0 t1 t2 t3).toInt64)))), .second, .val (.ref am), .val (.int 2), .val (.int 1), .val (.int j2)]) rfl ?_
    show Steps p.tables e below (s₁.setTop (mkF m 34 _ [])) target
    refine XS.iinc X0.here hx rfl (hb hby d2_34) rfl (l' := #[.val (.ref am), .val (.ref at_), .val (.double (FP.l2d (((0 : Int64) + ((own_sel j1 t0 t1 t2 t3).toInt64)) + ((own_sel j2 t0 t1 t2 t3).toInt64)))), .second, .val (.ref am), .val (.int 2), .val (.int 2), .val (.int j2)]) rfl ?_
    show Steps p.tables e below (s₁.setTop (mkF m 37 _ [])) target
    refine XS.goto X0.here hx rfl (pc0 := 37) (pc' := 13) rfl (hb hby d2_37) (by decide) (by decide) ?_
    show Steps p.tables e below (s₁.setTop (mkF m 13 _ [])) target
    refine XS.iload X0.here hx rfl (hb hby d2_13) rfl ?_
    show Steps p.tables e below (s₁.setTop (mkF m 15 _ [(.int 2)])) target
    refine XS.iload X0.here hx rfl (hb hby d2_15) rfl ?_
    show Steps p.tables e below (s₁.setTop (mkF m 17 _ [(.int 2), (.int 2)])) target
    refine XS.icmpYes X0.here hx rfl (pc0 := 17) (pc' := 40) rfl (hb hby d2_17) rfl (flt (by decide : ¬ ((2 : Int32) < (2 : Int32)))).2.1 (by decide) (by decide) ?_
    show Steps p.tables e below (s₁.setTop (mkF m 40 _ [])) target
    refine XS.dloadN X0.here hx rfl (hb hby d2_40) rfl ?_
    exact kt
  refine Go.ret X0 (v := some (.double (FP.l2d (((0 : Int64) + ((own_sel j1 t0 t1 t2 t3).toInt64)) + ((own_sel j2 t0 t1 t2 t3).toInt64))))) (fun h => by rw [hret] at h; cases h) hlk (fun fs hr => retD X0 hx hret (hb hby d2_41) hr) ?_ (by decide) (by decide)
  show Q2_2 Z am at_ km kt_ j1 j2 t0 t1 t2 t3 h0 n0 _ s₁.heap _
  rw [e0]
  exact ⟨rfl, N0, rfl⟩
theorem ef2_3 (m : MethodId) (x0 : Addr) (x1 : Addr) : entryFrame m #[(.ref x0), (.ref x1)] 8 = mkF m 0 #[.val (.ref x0), .val (.ref x1), .unset, .unset, .unset, .unset, .unset, .unset] [] := by first | (simp [entryFrame, mkF, argsToLocals, Value.category]; done) | rfl
def Q2_3 (Z : State) (am : Addr) (at_ : Addr) (km : ClassId) (kt_ : ClassId) (j1 : Int32) (j2 : Int32) (j3 : Int32) (t0 : Int32) (t1 : Int32) (t2 : Int32) (t3 : Int32) (h0 : Heap) (n0 : Nat) (v : Option Value) (h : Heap) (L : List Loc) : Prop := v = some (.double (FP.l2d ((((0 : Int64) + ((own_sel j1 t0 t1 t2 t3).toInt64)) + ((own_sel j2 t0 t1 t2 t3).toInt64)) + ((own_sel j3 t0 t1 t2 t3).toInt64)))) ∧ Fr n0 L ∧ h = h0
theorem rm2_3 (l : Launch) (Z : State) (a0 : Array Value) (hw : ∀ d ∈ tables_1, d.before a0 Z = true) (ws : List Jvm.Cond) (am : Addr) (at_ : Addr) (km : ClassId) (kt_ : ClassId) (j1 : Int32) (j2 : Int32) (j3 : Int32) (t0 : Int32) (t1 : Int32) (t2 : Int32) (t3 : Int32) (h0 : Heap) (n0 : Nat) (Z0 : n0 ≤ h0.size) (O0 : Old Z n0 h0) (Vm : Arv Z h0 am km .int (3 : Int32) [(.int j1), (.int j2), (.int j3)] (.int 0)) (Vt : Arv Z h0 at_ kt_ .double (4 : Int32) [(.double (FP.l2d (t0.toInt64))), (.double (FP.l2d (t1.toInt64))), (.double (FP.l2d (t2.toInt64))), (.double (FP.l2d (t3.toInt64)))] (.double (FP.l2d 0))) (hb_j1 : 0 ≤ j1.toInt ∧ j1.toInt < 4) (hb_j2 : 0 ≤ j2.toInt ∧ j2.toInt < 4) (hb_j3 : 0 ≤ j3.toInt ∧ j3.toInt < 4) :
    Met l Z ws (⟨"com/example/count_calibrated_demand/countcalibrateddemand/CountCorrection", "correction", "([I[D)D"⟩ : MethodName) prog_11_method_4_code 8 (some .double) (Rm 0 0 0 0) #[(.ref am), (.ref at_)] h0 (Q2_3 Z am at_ km kt_ j1 j2 j3 t0 t1 t2 t3 h0 n0) := by
  refine Met.enter (L0 := #[.val (.ref am), .val (.ref at_), .unset, .unset, .unset, .unset, .unset, .unset]) (plainFor_of_name pn79) (fun m => ef2_3 m am at_) ?_
  intro p e s m below meth c s₁ hx hby hml hown hnm hret hlk hZ X0 e0
  have N0 := Fr.nil n0
  have K0 : Keep h0 h0 [] := Keep.refl h0 _
  obtain ⟨cl1, Ar1, -, S1, M1, -, -⟩ := id Vm
  obtain ⟨cl2, Ar2, -, S2, M2, H2, -⟩ := id Vm
  have hin2 : ¬ ((0 : Int32) < 0 ∨ cl2.slots.size ≤ ((0 : Int32)).toNatClampNeg) := inb_of S2 ⟨by decide, by decide⟩
  have hat2 : cl2.slots[((0 : Int32)).toNatClampNeg]? = some (.int j1) := H2.at hin2 rfl
  obtain ⟨cl3, Ar3, hin3, hat3⟩ := own_read Vt hb_j1
  obtain ⟨cl4, Ar4, -, S4, M4, H4, -⟩ := id Vm
  have hin4 : ¬ ((1 : Int32) < 0 ∨ cl4.slots.size ≤ ((1 : Int32)).toNatClampNeg) := inb_of S4 ⟨by decide, by decide⟩
  have hat4 : cl4.slots[((1 : Int32)).toNatClampNeg]? = some (.int j2) := H4.at hin4 rfl
  obtain ⟨cl5, Ar5, hin5, hat5⟩ := own_read Vt hb_j2
  obtain ⟨cl6, Ar6, -, S6, M6, H6, -⟩ := id Vm
  have hin6 : ¬ ((2 : Int32) < 0 ∨ cl6.slots.size ≤ ((2 : Int32)).toNatClampNeg) := inb_of S6 ⟨by decide, by decide⟩
  have hat6 : cl6.slots[((2 : Int32)).toNatClampNeg]? = some (.int j3) := H6.at hin6 rfl
  obtain ⟨cl7, Ar7, hin7, hat7⟩ := own_read Vt hb_j3
  refine Go.st (t' := s₁.setTop (mkF m 41 #[.val (.ref am), .val (.ref at_), .val (.double (FP.l2d ((((0 : Int64) + ((own_sel j1 t0 t1 t2 t3).toInt64)) + ((own_sel j2 t0 t1 t2 t3).toInt64)) + ((own_sel j3 t0 t1 t2 t3).toInt64)))), .second, .val (.ref am), .val (.int 3), .val (.int 3), .val (.int j3)] [(.double (FP.l2d ((((0 : Int64) + ((own_sel j1 t0 t1 t2 t3).toInt64)) + ((own_sel j2 t0 t1 t2 t3).toInt64)) + ((own_sel j3 t0 t1 t2 t3).toInt64))))])) (fun target kt => ?_) ?_
  · refine XS.dconst0 X0.here hx rfl (v := (FP.l2d (0 : Int64))) (hb hby d2_0) (by decide +kernel) ?_
    show Steps p.tables e below (s₁.setTop (mkF m 1 _ [(.double (FP.l2d (0 : Int64)))])) target
    refine XS.dstoreN X0.here hx rfl (hb hby d2_1) rfl (l' := #[.val (.ref am), .val (.ref at_), .val (.double (FP.l2d (0 : Int64))), .second, .unset, .unset, .unset, .unset]) rfl ?_
    show Steps p.tables e below (s₁.setTop (mkF m 2 _ [])) target
    refine XS.aloadN X0.here hx rfl (hb hby d2_2) rfl rfl ?_
    show Steps p.tables e below (s₁.setTop (mkF m 3 _ [(.ref am)])) target
    refine XS.astore X0.here hx rfl (hb hby d2_3) rfl rfl (l' := #[.val (.ref am), .val (.ref at_), .val (.double (FP.l2d (0 : Int64))), .second, .val (.ref am), .unset, .unset, .unset]) rfl ?_
    show Steps p.tables e below (s₁.setTop (mkF m 5 _ [])) target
    refine XS.aload X0.here hx rfl (hb hby d2_5) rfl rfl ?_
    show Steps p.tables e below (s₁.setTop (mkF m 7 _ [(.ref am)])) target
    refine X0.arraylength hx (by rw [e0]; exact Ar1.1) (State.isArrayOf_alike hZ.alike Ar1.2.1) (g := (mkF m 7 #[.val (.ref am), .val (.ref at_), .val (.double (FP.l2d (0 : Int64))), .second, .val (.ref am), .unset, .unset, .unset] [(.ref am)])) rfl rfl (hb hby d2_7) _ ?_
    rw [len_of S1 M1]
    show Steps p.tables e below (s₁.setTop (mkF m 8 _ [(.int 3)])) target
    refine XS.istore X0.here hx rfl (hb hby d2_8) rfl (l' := #[.val (.ref am), .val (.ref at_), .val (.double (FP.l2d (0 : Int64))), .second, .val (.ref am), .val (.int 3), .unset, .unset]) rfl ?_
    show Steps p.tables e below (s₁.setTop (mkF m 10 _ [])) target
    refine XS.iconst X0.here hx rfl (hb hby d2_10) ?_
    show Steps p.tables e below (s₁.setTop (mkF m 11 _ [(.int 0)])) target
    refine XS.istore X0.here hx rfl (hb hby d2_11) rfl (l' := #[.val (.ref am), .val (.ref at_), .val (.double (FP.l2d (0 : Int64))), .second, .val (.ref am), .val (.int 3), .val (.int 0), .unset]) rfl ?_
    show Steps p.tables e below (s₁.setTop (mkF m 13 _ [])) target
    refine XS.iload X0.here hx rfl (hb hby d2_13) rfl ?_
    show Steps p.tables e below (s₁.setTop (mkF m 15 _ [(.int 0)])) target
    refine XS.iload X0.here hx rfl (hb hby d2_15) rfl ?_
    show Steps p.tables e below (s₁.setTop (mkF m 17 _ [(.int 3), (.int 0)])) target
    refine XS.icmpNo X0.here hx rfl (hb hby d2_17) rfl (tlt (by decide : (0 : Int32) < (3 : Int32))).2.1 ?_
    show Steps p.tables e below (s₁.setTop (mkF m 20 _ [])) target
    refine XS.aload X0.here hx rfl (hb hby d2_20) rfl rfl ?_
    show Steps p.tables e below (s₁.setTop (mkF m 22 _ [(.ref am)])) target
    refine XS.iload X0.here hx rfl (hb hby d2_22) rfl ?_
    show Steps p.tables e below (s₁.setTop (mkF m 24 _ [(.int 0), (.ref am)])) target
    refine X0.iaload hx (j := (0 : Int32)) (v := (.int j1)) (by rw [e0]; exact Ar2.1) (State.isArrayOf_alike hZ.alike Ar2.2.1) Ar2.2.2 hin2 hat2 (g := (mkF m 24 #[.val (.ref am), .val (.ref at_), .val (.double (FP.l2d (0 : Int64))), .second, .val (.ref am), .val (.int 3), .val (.int 0), .unset] [(.int 0), (.ref am)])) rfl rfl (hb hby d2_24) _ ?_
    show Steps p.tables e below (s₁.setTop (mkF m 25 _ [(.int j1)])) target
    refine XS.istore X0.here hx rfl (hb hby d2_25) rfl (l' := #[.val (.ref am), .val (.ref at_), .val (.double (FP.l2d (0 : Int64))), .second, .val (.ref am), .val (.int 3), .val (.int 0), .val (.int j1)]) rfl ?_
    show Steps p.tables e below (s₁.setTop (mkF m 27 _ [])) target
    refine XS.dloadN X0.here hx rfl (hb hby d2_27) rfl ?_
    show Steps p.tables e below (s₁.setTop (mkF m 28 _ [(.double (FP.l2d (0 : Int64)))])) target
    refine XS.aloadN X0.here hx rfl (hb hby d2_28) rfl rfl ?_
    show Steps p.tables e below (s₁.setTop (mkF m 29 _ [(.ref at_), (.double (FP.l2d (0 : Int64)))])) target
    refine XS.iload X0.here hx rfl (hb hby d2_29) rfl ?_
    show Steps p.tables e below (s₁.setTop (mkF m 31 _ [(.int j1), (.ref at_), (.double (FP.l2d (0 : Int64)))])) target
    refine X0.daload hx (j := j1) (v := (.double (FP.l2d ((own_sel j1 t0 t1 t2 t3).toInt64)))) (by rw [e0]; exact Ar3.1) (State.isArrayOf_alike hZ.alike Ar3.2.1) Ar3.2.2 hin3 hat3 (g := (mkF m 31 #[.val (.ref am), .val (.ref at_), .val (.double (FP.l2d (0 : Int64))), .second, .val (.ref am), .val (.int 3), .val (.int 0), .val (.int j1)] [(.int j1), (.ref at_), (.double (FP.l2d (0 : Int64)))])) rfl rfl (hb hby d2_31) _ ?_
    show Steps p.tables e below (s₁.setTop (mkF m 32 _ [(.double (FP.l2d ((own_sel j1 t0 t1 t2 t3).toInt64))), (.double (FP.l2d (0 : Int64)))])) target
    refine XS.daddS X0.here hx rfl (hb hby d2_32) rfl (nn_w (dadd_w own_b0 (own_b1 (own_sel j1 t0 t1 t2 t3)))) (dadd_w own_b0 (own_b1 (own_sel j1 t0 t1 t2 t3))) ?_
    show Steps p.tables e below (s₁.setTop (mkF m 33 _ [(.double (FP.l2d ((0 : Int64) + ((own_sel j1 t0 t1 t2 t3).toInt64))))])) target
    refine XS.dstoreN X0.here hx rfl (hb hby d2_33) rfl (l' := #[.val (.ref am), .val (.ref at_), .val (.double (FP.l2d ((0 : Int64) + ((own_sel j1 t0 t1 t2 t3).toInt64)))), .second, .val (.ref am), .val (.int 3), .val (.int 0), .val (.int j1)]) rfl ?_
    show Steps p.tables e below (s₁.setTop (mkF m 34 _ [])) target
    refine XS.iinc X0.here hx rfl (hb hby d2_34) rfl (l' := #[.val (.ref am), .val (.ref at_), .val (.double (FP.l2d ((0 : Int64) + ((own_sel j1 t0 t1 t2 t3).toInt64)))), .second, .val (.ref am), .val (.int 3), .val (.int 1), .val (.int j1)]) rfl ?_
    show Steps p.tables e below (s₁.setTop (mkF m 37 _ [])) target
    refine XS.goto X0.here hx rfl (pc0 := 37) (pc' := 13) rfl (hb hby d2_37) (by decide) (by decide) ?_
    show Steps p.tables e below (s₁.setTop (mkF m 13 _ [])) target
    refine XS.iload X0.here hx rfl (hb hby d2_13) rfl ?_
    show Steps p.tables e below (s₁.setTop (mkF m 15 _ [(.int 1)])) target
    refine XS.iload X0.here hx rfl (hb hby d2_15) rfl ?_
    show Steps p.tables e below (s₁.setTop (mkF m 17 _ [(.int 3), (.int 1)])) target
    refine XS.icmpNo X0.here hx rfl (hb hby d2_17) rfl (tlt (by decide : (1 : Int32) < (3 : Int32))).2.1 ?_
    show Steps p.tables e below (s₁.setTop (mkF m 20 _ [])) target
    refine XS.aload X0.here hx rfl (hb hby d2_20) rfl rfl ?_
    show Steps p.tables e below (s₁.setTop (mkF m 22 _ [(.ref am)])) target
    refine XS.iload X0.here hx rfl (hb hby d2_22) rfl ?_
    show Steps p.tables e below (s₁.setTop (mkF m 24 _ [(.int 1), (.ref am)])) target
    refine X0.iaload hx (j := (1 : Int32)) (v := (.int j2)) (by rw [e0]; exact Ar4.1) (State.isArrayOf_alike hZ.alike Ar4.2.1) Ar4.2.2 hin4 hat4 (g := (mkF m 24 #[.val (.ref am), .val (.ref at_), .val (.double (FP.l2d ((0 : Int64) + ((own_sel j1 t0 t1 t2 t3).toInt64)))), .second, .val (.ref am), .val (.int 3), .val (.int 1), .val (.int j1)] [(.int 1), (.ref am)])) rfl rfl (hb hby d2_24) _ ?_
    show Steps p.tables e below (s₁.setTop (mkF m 25 _ [(.int j2)])) target
    refine XS.istore X0.here hx rfl (hb hby d2_25) rfl (l' := #[.val (.ref am), .val (.ref at_), .val (.double (FP.l2d ((0 : Int64) + ((own_sel j1 t0 t1 t2 t3).toInt64)))), .second, .val (.ref am), .val (.int 3), .val (.int 1), .val (.int j2)]) rfl ?_
    show Steps p.tables e below (s₁.setTop (mkF m 27 _ [])) target
    refine XS.dloadN X0.here hx rfl (hb hby d2_27) rfl ?_
    show Steps p.tables e below (s₁.setTop (mkF m 28 _ [(.double (FP.l2d ((0 : Int64) + ((own_sel j1 t0 t1 t2 t3).toInt64))))])) target
    refine XS.aloadN X0.here hx rfl (hb hby d2_28) rfl rfl ?_
    show Steps p.tables e below (s₁.setTop (mkF m 29 _ [(.ref at_), (.double (FP.l2d ((0 : Int64) + ((own_sel j1 t0 t1 t2 t3).toInt64))))])) target
    refine XS.iload X0.here hx rfl (hb hby d2_29) rfl ?_
    show Steps p.tables e below (s₁.setTop (mkF m 31 _ [(.int j2), (.ref at_), (.double (FP.l2d ((0 : Int64) + ((own_sel j1 t0 t1 t2 t3).toInt64))))])) target
    refine X0.daload hx (j := j2) (v := (.double (FP.l2d ((own_sel j2 t0 t1 t2 t3).toInt64)))) (by rw [e0]; exact Ar5.1) (State.isArrayOf_alike hZ.alike Ar5.2.1) Ar5.2.2 hin5 hat5 (g := (mkF m 31 #[.val (.ref am), .val (.ref at_), .val (.double (FP.l2d ((0 : Int64) + ((own_sel j1 t0 t1 t2 t3).toInt64)))), .second, .val (.ref am), .val (.int 3), .val (.int 1), .val (.int j2)] [(.int j2), (.ref at_), (.double (FP.l2d ((0 : Int64) + ((own_sel j1 t0 t1 t2 t3).toInt64))))])) rfl rfl (hb hby d2_31) _ ?_
    show Steps p.tables e below (s₁.setTop (mkF m 32 _ [(.double (FP.l2d ((own_sel j2 t0 t1 t2 t3).toInt64))), (.double (FP.l2d ((0 : Int64) + ((own_sel j1 t0 t1 t2 t3).toInt64))))])) target
    refine XS.daddS X0.here hx rfl (hb hby d2_32) rfl (nn_w (dadd_w (own_s1 (own_sel j1 t0 t1 t2 t3)) (own_b1 (own_sel j2 t0 t1 t2 t3)))) (dadd_w (own_s1 (own_sel j1 t0 t1 t2 t3)) (own_b1 (own_sel j2 t0 t1 t2 t3))) ?_
    show Steps p.tables e below (s₁.setTop (mkF m 33 _ [(.double (FP.l2d (((0 : Int64) + ((own_sel j1 t0 t1 t2 t3).toInt64)) + ((own_sel j2 t0 t1 t2 t3).toInt64))))])) target
    refine XS.dstoreN X0.here hx rfl (hb hby d2_33) rfl (l' := #[.val (.ref am), .val (.ref at_), .val (.double (FP.l2d (((0 : Int64) + ((own_sel j1 t0 t1 t2 t3).toInt64)) + ((own_sel j2 t0 t1 t2 t3).toInt64)))), .second, .val (.ref am), .val (.int 3), .val (.int 1), .val (.int j2)]) rfl ?_
    show Steps p.tables e below (s₁.setTop (mkF m 34 _ [])) target
    refine XS.iinc X0.here hx rfl (hb hby d2_34) rfl (l' := #[.val (.ref am), .val (.ref at_), .val (.double (FP.l2d (((0 : Int64) + ((own_sel j1 t0 t1 t2 t3).toInt64)) + ((own_sel j2 t0 t1 t2 t3).toInt64)))), .second, .val (.ref am), .val (.int 3), .val (.int 2), .val (.int j2)]) rfl ?_
    show Steps p.tables e below (s₁.setTop (mkF m 37 _ [])) target
    refine XS.goto X0.here hx rfl (pc0 := 37) (pc' := 13) rfl (hb hby d2_37) (by decide) (by decide) ?_
    show Steps p.tables e below (s₁.setTop (mkF m 13 _ [])) target
    refine XS.iload X0.here hx rfl (hb hby d2_13) rfl ?_
    show Steps p.tables e below (s₁.setTop (mkF m 15 _ [(.int 2)])) target
    refine XS.iload X0.here hx rfl (hb hby d2_15) rfl ?_
    show Steps p.tables e below (s₁.setTop (mkF m 17 _ [(.int 3), (.int 2)])) target
    refine XS.icmpNo X0.here hx rfl (hb hby d2_17) rfl (tlt (by decide : (2 : Int32) < (3 : Int32))).2.1 ?_
    show Steps p.tables e below (s₁.setTop (mkF m 20 _ [])) target
    refine XS.aload X0.here hx rfl (hb hby d2_20) rfl rfl ?_
    show Steps p.tables e below (s₁.setTop (mkF m 22 _ [(.ref am)])) target
    refine XS.iload X0.here hx rfl (hb hby d2_22) rfl ?_
    show Steps p.tables e below (s₁.setTop (mkF m 24 _ [(.int 2), (.ref am)])) target
    refine X0.iaload hx (j := (2 : Int32)) (v := (.int j3)) (by rw [e0]; exact Ar6.1) (State.isArrayOf_alike hZ.alike Ar6.2.1) Ar6.2.2 hin6 hat6 (g := (mkF m 24 #[.val (.ref am), .val (.ref at_), .val (.double (FP.l2d (((0 : Int64) + ((own_sel j1 t0 t1 t2 t3).toInt64)) + ((own_sel j2 t0 t1 t2 t3).toInt64)))), .second, .val (.ref am), .val (.int 3), .val (.int 2), .val (.int j2)] [(.int 2), (.ref am)])) rfl rfl (hb hby d2_24) _ ?_
    show Steps p.tables e below (s₁.setTop (mkF m 25 _ [(.int j3)])) target
    refine XS.istore X0.here hx rfl (hb hby d2_25) rfl (l' := #[.val (.ref am), .val (.ref at_), .val (.double (FP.l2d (((0 : Int64) + ((own_sel j1 t0 t1 t2 t3).toInt64)) + ((own_sel j2 t0 t1 t2 t3).toInt64)))), .second, .val (.ref am), .val (.int 3), .val (.int 2), .val (.int j3)]) rfl ?_
    show Steps p.tables e below (s₁.setTop (mkF m 27 _ [])) target
    refine XS.dloadN X0.here hx rfl (hb hby d2_27) rfl ?_
    show Steps p.tables e below (s₁.setTop (mkF m 28 _ [(.double (FP.l2d (((0 : Int64) + ((own_sel j1 t0 t1 t2 t3).toInt64)) + ((own_sel j2 t0 t1 t2 t3).toInt64))))])) target
    refine XS.aloadN X0.here hx rfl (hb hby d2_28) rfl rfl ?_
    show Steps p.tables e below (s₁.setTop (mkF m 29 _ [(.ref at_), (.double (FP.l2d (((0 : Int64) + ((own_sel j1 t0 t1 t2 t3).toInt64)) + ((own_sel j2 t0 t1 t2 t3).toInt64))))])) target
    refine XS.iload X0.here hx rfl (hb hby d2_29) rfl ?_
    show Steps p.tables e below (s₁.setTop (mkF m 31 _ [(.int j3), (.ref at_), (.double (FP.l2d (((0 : Int64) + ((own_sel j1 t0 t1 t2 t3).toInt64)) + ((own_sel j2 t0 t1 t2 t3).toInt64))))])) target
    refine X0.daload hx (j := j3) (v := (.double (FP.l2d ((own_sel j3 t0 t1 t2 t3).toInt64)))) (by rw [e0]; exact Ar7.1) (State.isArrayOf_alike hZ.alike Ar7.2.1) Ar7.2.2 hin7 hat7 (g := (mkF m 31 #[.val (.ref am), .val (.ref at_), .val (.double (FP.l2d (((0 : Int64) + ((own_sel j1 t0 t1 t2 t3).toInt64)) + ((own_sel j2 t0 t1 t2 t3).toInt64)))), .second, .val (.ref am), .val (.int 3), .val (.int 2), .val (.int j3)] [(.int j3), (.ref at_), (.double (FP.l2d (((0 : Int64) + ((own_sel j1 t0 t1 t2 t3).toInt64)) + ((own_sel j2 t0 t1 t2 t3).toInt64))))])) rfl rfl (hb hby d2_31) _ ?_
    show Steps p.tables e below (s₁.setTop (mkF m 32 _ [(.double (FP.l2d ((own_sel j3 t0 t1 t2 t3).toInt64))), (.double (FP.l2d (((0 : Int64) + ((own_sel j1 t0 t1 t2 t3).toInt64)) + ((own_sel j2 t0 t1 t2 t3).toInt64))))])) target
    refine XS.daddS X0.here hx rfl (hb hby d2_32) rfl (nn_w (dadd_w (own_s2 (own_sel j1 t0 t1 t2 t3) (own_sel j2 t0 t1 t2 t3)) (own_b1 (own_sel j3 t0 t1 t2 t3)))) (dadd_w (own_s2 (own_sel j1 t0 t1 t2 t3) (own_sel j2 t0 t1 t2 t3)) (own_b1 (own_sel j3 t0 t1 t2 t3))) ?_
    show Steps p.tables e below (s₁.setTop (mkF m 33 _ [(.double (FP.l2d ((((0 : Int64) + ((own_sel j1 t0 t1 t2 t3).toInt64)) + ((own_sel j2 t0 t1 t2 t3).toInt64)) + ((own_sel j3 t0 t1 t2 t3).toInt64))))])) target
    refine XS.dstoreN X0.here hx rfl (hb hby d2_33) rfl (l' := #[.val (.ref am), .val (.ref at_), .val (.double (FP.l2d ((((0 : Int64) + ((own_sel j1 t0 t1 t2 t3).toInt64)) + ((own_sel j2 t0 t1 t2 t3).toInt64)) + ((own_sel j3 t0 t1 t2 t3).toInt64)))), .second, .val (.ref am), .val (.int 3), .val (.int 2), .val (.int j3)]) rfl ?_
    show Steps p.tables e below (s₁.setTop (mkF m 34 _ [])) target
    refine XS.iinc X0.here hx rfl (hb hby d2_34) rfl (l' := #[.val (.ref am), .val (.ref at_), .val (.double (FP.l2d ((((0 : Int64) + ((own_sel j1 t0 t1 t2 t3).toInt64)) + ((own_sel j2 t0 t1 t2 t3).toInt64)) + ((own_sel j3 t0 t1 t2 t3).toInt64)))), .second, .val (.ref am), .val (.int 3), .val (.int 3), .val (.int j3)]) rfl ?_
    show Steps p.tables e below (s₁.setTop (mkF m 37 _ [])) target
    refine XS.goto X0.here hx rfl (pc0 := 37) (pc' := 13) rfl (hb hby d2_37) (by decide) (by decide) ?_
    show Steps p.tables e below (s₁.setTop (mkF m 13 _ [])) target
    refine XS.iload X0.here hx rfl (hb hby d2_13) rfl ?_
    show Steps p.tables e below (s₁.setTop (mkF m 15 _ [(.int 3)])) target
    refine XS.iload X0.here hx rfl (hb hby d2_15) rfl ?_
    show Steps p.tables e below (s₁.setTop (mkF m 17 _ [(.int 3), (.int 3)])) target
    refine XS.icmpYes X0.here hx rfl (pc0 := 17) (pc' := 40) rfl (hb hby d2_17) rfl (flt (by decide : ¬ ((3 : Int32) < (3 : Int32)))).2.1 (by decide) (by decide) ?_
    show Steps p.tables e below (s₁.setTop (mkF m 40 _ [])) target
    refine XS.dloadN X0.here hx rfl (hb hby d2_40) rfl ?_
    exact kt
  refine Go.ret X0 (v := some (.double (FP.l2d ((((0 : Int64) + ((own_sel j1 t0 t1 t2 t3).toInt64)) + ((own_sel j2 t0 t1 t2 t3).toInt64)) + ((own_sel j3 t0 t1 t2 t3).toInt64))))) (fun h => by rw [hret] at h; cases h) hlk (fun fs hr => retD X0 hx hret (hb hby d2_41) hr) ?_ (by decide) (by decide)
  show Q2_3 Z am at_ km kt_ j1 j2 j3 t0 t1 t2 t3 h0 n0 _ s₁.heap _
  rw [e0]
  exact ⟨rfl, N0, rfl⟩
theorem tw0 : (Jvm.Cond.arrayClass Jvm.ClassFile.FieldType.double) ∈ tables_1 := List.mem_of_getElem? (i := 0) rfl
theorem tw1 : (Jvm.Cond.methodLink "com/example/count_calibrated_demand/countcalibrateddemand/CountCorrectionCorrectionPinLaw" (7 : Nat) ({ cls := "com/example/count_calibrated_demand/countcalibrateddemand/CountCorrectionCorrectionPinLaw", name := "metOf", desc := "(IIII)[I" } : Jvm.MethodName)) ∈ tables_1 := List.mem_of_getElem? (i := 1) rfl
theorem tw4 : (Jvm.Cond.code ({ cls := "com/example/count_calibrated_demand/countcalibrateddemand/CountCorrectionCorrectionPinLaw", name := "metOf", desc := "(IIII)[I" } : Jvm.MethodName) method_3_code (4 : Nat) (Option.some (Jvm.ClassFile.FieldType.array Jvm.ClassFile.FieldType.int))) ∈ tables_1 := List.mem_of_getElem? (i := 4) rfl
theorem tw3 : (Jvm.Cond.initialized "com/example/count_calibrated_demand/countcalibrateddemand/CountCorrectionCorrectionPinLaw") ∈ tables_1 := List.mem_of_getElem? (i := 3) rfl
theorem pd0 : parseMethodDescriptor "(IIII)[I" = some ⟨[.int, .int, .int, .int], some (.array .int)⟩ := by decide +kernel
theorem tw2 : (Jvm.Cond.static ({ cls := "com/example/count_calibrated_demand/countcalibrateddemand/CountCorrectionCorrectionPinLaw", name := "metOf", desc := "(IIII)[I" } : Jvm.MethodName)) ∈ tables_1 := List.mem_of_getElem? (i := 2) rfl
theorem tw6 : (Jvm.Cond.methodLink "com/example/count_calibrated_demand/countcalibrateddemand/CountCorrectionCorrectionPinLaw" (17 : Nat) ({ cls := "com/example/count_calibrated_demand/countcalibrateddemand/CountCorrection", name := "correction", desc := "([I[D)D" } : Jvm.MethodName)) ∈ tables_1 := List.mem_of_getElem? (i := 6) rfl
theorem tw9 : (Jvm.Cond.code ({ cls := "com/example/count_calibrated_demand/countcalibrateddemand/CountCorrection", name := "correction", desc := "([I[D)D" } : Jvm.MethodName) prog_11_method_4_code (8 : Nat) (Option.some Jvm.ClassFile.FieldType.double)) ∈ tables_1 := List.mem_of_getElem? (i := 9) rfl
theorem tw8 : (Jvm.Cond.initialized "com/example/count_calibrated_demand/countcalibrateddemand/CountCorrection") ∈ tables_1 := List.mem_of_getElem? (i := 8) rfl
theorem pd1 : parseMethodDescriptor "([I[D)D" = some ⟨[(.array .int), (.array .double)], some .double⟩ := by decide +kernel
theorem tw7 : (Jvm.Cond.static ({ cls := "com/example/count_calibrated_demand/countcalibrateddemand/CountCorrection", name := "correction", desc := "([I[D)D" } : Jvm.MethodName)) ∈ tables_1 := List.mem_of_getElem? (i := 7) rfl
theorem tw10 : (Jvm.Cond.methodLink "com/example/count_calibrated_demand/countcalibrateddemand/CountCorrectionCorrectionPinLaw" (13 : Nat) ({ cls := "com/example/count_calibrated_demand/countcalibrateddemand/CountCorrectionCorrectionPinLaw", name := "pick", desc := "(IIIII)J" } : Jvm.MethodName)) ∈ tables_1 := List.mem_of_getElem? (i := 10) rfl
theorem tw12 : (Jvm.Cond.code ({ cls := "com/example/count_calibrated_demand/countcalibrateddemand/CountCorrectionCorrectionPinLaw", name := "pick", desc := "(IIIII)J" } : Jvm.MethodName) method_4_code (5 : Nat) (Option.some Jvm.ClassFile.FieldType.long)) ∈ tables_1 := List.mem_of_getElem? (i := 12) rfl
theorem pd2 : parseMethodDescriptor "(IIIII)J" = some ⟨[.int, .int, .int, .int, .int], some .long⟩ := by decide +kernel
theorem tw11 : (Jvm.Cond.static ({ cls := "com/example/count_calibrated_demand/countcalibrateddemand/CountCorrectionCorrectionPinLaw", name := "pick", desc := "(IIIII)J" } : Jvm.MethodName)) ∈ tables_1 := List.mem_of_getElem? (i := 11) rfl
theorem ef0 (m : MethodId) (x0 : Int32) (x1 : Int32) (x2 : Int32) (x3 : Int32) (x4 : Int32) : entryFrame m #[(.int x0), (.int x1), (.int x2), (.int x3), (.int x4)] maxLocals = mkF m 0 #[.val (.int x0), .val (.int x1), .val (.int x2), .val (.int x3), .val (.int x4), .unset, .unset, .unset, .unset, .unset, .unset, .unset, .unset, .unset, .unset] [] := by first | (simp [entryFrame, mkF, argsToLocals, Value.category, maxLocals]; done) | rfl
def Q0 (Z : State) (p0 : Int32) (p1 : Int32) (p2 : Int32) (p3 : Int32) (p4 : Int32) (h0 : Heap) (n0 : Nat) (v : Option Value) (h : Heap) (L : List Loc) : Prop := v = some (.int 1) ∧ Fr n0 L ∧ Keep h0 h []
theorem rm0 (l : Launch) (Z : State) (a0 : Array Value) (hw : ∀ d ∈ tables_1, d.before a0 Z = true) (ws : List Jvm.Cond) (p0 : Int32) (p1 : Int32) (p2 : Int32) (p3 : Int32) (p4 : Int32) (h0 : Heap) (n0 : Nat) (Z0 : n0 ≤ h0.size) (O0 : Old Z n0 h0) :
    Met l Z ws x code maxLocals ret room_1 #[(.int p0), (.int p1), (.int p2), (.int p3), (.int p4)] h0 (Q0 Z p0 p1 p2 p3 p4 h0 n0) := by
  refine Met.enter (L0 := #[.val (.int p0), .val (.int p1), .val (.int p2), .val (.int p3), .val (.int p4), .unset, .unset, .unset, .unset, .unset, .unset, .unset, .unset, .unset, .unset]) (plainFor_of_name pn5) (fun m => ef0 m p0 p1 p2 p3 p4) ?_
  intro p e s m below meth c s₁ hx hby hml hown hnm hret hlk hZ X0 e0
  have N0 := Fr.nil n0
  have K0 : Keep h0 h0 [] := Keep.refl h0 _
  refine Go.st (t' := s₁.setTop (mkF m 1 #[.val (.int p0), .val (.int p1), .val (.int p2), .val (.int p3), .val (.int p4), .unset, .unset, .unset, .unset, .unset, .unset, .unset, .unset, .unset, .unset] [(.int 4)])) (fun target kt => ?_) ?_
  · refine XS.iconst X0.here hx rfl (hb hby at_0) ?_
    exact kt
  obtain ⟨T1, h1, k1, X1, e1, E1, A1, B1, st1⟩ := newPE (aty := .double) X0 hx hZ (hw _ tw0) e0 (g := (mkF m 1 #[.val (.int p0), .val (.int p1), .val (.int p2), .val (.int p3), .val (.int p4), .unset, .unset, .unset, .unset, .unset, .unset, .unset, .unset, .unset, .unset] [(.int 4)])) rfl (hb hby at_1) rfl (by decide) (cap := 4) (by decide) (by decide) (by decide) (by decide) (ad := "[D") (by decide)
  obtain ⟨b1, g1⟩ : ∃ z, z = h0.size := ⟨_, rfl⟩
  rw [← g1] at A1 B1 st1
  have lb2 : h0.size ≤ b1 := Nat.le_of_eq g1.symm
  have sz3 : h0.size ≤ b1 := Nat.le_trans K0.1 lb2
  have g4 : n0 ≤ b1 := Nat.le_trans Z0 sz3
  have K5 := K0.ext E1
  have O6 := O0.ext E1
  have V7 : Arv Z h1 b1 k1 .double (4 : Int32) [(.double (FP.l2d 0)), (.double (FP.l2d 0)), (.double (FP.l2d 0)), (.double (FP.l2d 0))] (.double (FP.l2d 0)) := (Arv.newD A1 (by decide)).pad (pad_rep [] (.double (FP.l2d 0)) 4)
  refine Go.st st1 ?_
  show Go _ _ _ _ _ _ _ (T1.setTop (mkF m 3 _ [(.ref b1)]))
  refine Go.st (t' := T1.setTop (mkF m 7 #[.val (.int p0), .val (.int p1), .val (.int p2), .val (.int p3), .val (.int p4), .unset, .unset, .unset, .unset, .unset, .unset, .unset, .unset, .unset, .unset] [(.double (FP.l2d (p0.toInt64))), (.int 0), (.ref b1), (.ref b1)])) (fun target kt => ?_) ?_
  · refine XS.dup X1.here hx rfl (hb hby at_3) rfl rfl ?_
    show Steps p.tables e below (T1.setTop (mkF m 4 _ [(.ref b1), (.ref b1)])) target
    refine XS.iconst X1.here hx rfl (hb hby at_4) ?_
    show Steps p.tables e below (T1.setTop (mkF m 5 _ [(.int 0), (.ref b1), (.ref b1)])) target
    refine XS.iloadN X1.here hx rfl (hb hby at_5) rfl ?_
    show Steps p.tables e below (T1.setTop (mkF m 6 _ [(.int p0), (.int 0), (.ref b1), (.ref b1)])) target
    refine XS.i2dS X1.here hx rfl (hb hby at_6) rfl (i2d_w p0) ?_
    exact kt
  obtain ⟨cl8, Ar8, q8, S8, M8, H8, G8⟩ := id V7
  have hin8 : ¬ ((0 : Int32) < 0 ∨ cl8.slots.size ≤ ((0 : Int32)).toNatClampNeg) := inb_of S8 ⟨by decide, by decide⟩
  obtain ⟨T8, h8, X8, e8, W8, st8⟩ := stD X1 hx hZ e1 Ar8 (j := (0 : Int32)) hin8 (g := (mkF m 7 #[.val (.int p0), .val (.int p1), .val (.int p2), .val (.int p3), .val (.int p4), .unset, .unset, .unset, .unset, .unset, .unset, .unset, .unset, .unset, .unset] [(.double (FP.l2d (p0.toInt64))), (.int 0), (.ref b1), (.ref b1)])) rfl rfl (hb hby at_7)
  have V9 : Arv Z h8 b1 k1 .double (4 : Int32) [(.double (FP.l2d (p0.toInt64))), (.double (FP.l2d 0)), (.double (FP.l2d 0)), (.double (FP.l2d 0))] (.double (FP.l2d 0)) := Arv.set Ar8 q8 S8 M8 H8 G8 rfl W8 0 rfl (Nat.le_of_ble_eq_true rfl)
  have K10 := K5.wr W8 (Or.inr sz3)
  have O11 := O6.wr W8 g4
  have N8 := Fr.snoc X8 N0 g4
  refine Go.st st8 ?_
  show Go _ _ _ _ _ _ _ (T8.setTop (mkF m 8 _ [(.ref b1)]))
  refine Go.st (t' := T8.setTop (mkF m 12 #[.val (.int p0), .val (.int p1), .val (.int p2), .val (.int p3), .val (.int p4), .unset, .unset, .unset, .unset, .unset, .unset, .unset, .unset, .unset, .unset] [(.double (FP.l2d (p1.toInt64))), (.int 1), (.ref b1), (.ref b1)])) (fun target kt => ?_) ?_
  · refine XS.dup X8.here hx rfl (hb hby at_8) rfl rfl ?_
    show Steps p.tables e below (T8.setTop (mkF m 9 _ [(.ref b1), (.ref b1)])) target
    refine XS.iconst X8.here hx rfl (hb hby at_9) ?_
    show Steps p.tables e below (T8.setTop (mkF m 10 _ [(.int 1), (.ref b1), (.ref b1)])) target
    refine XS.iloadN X8.here hx rfl (hb hby at_10) rfl ?_
    show Steps p.tables e below (T8.setTop (mkF m 11 _ [(.int p1), (.int 1), (.ref b1), (.ref b1)])) target
    refine XS.i2dS X8.here hx rfl (hb hby at_11) rfl (i2d_w p1) ?_
    exact kt
  obtain ⟨cl12, Ar12, q12, S12, M12, H12, G12⟩ := id V9
  have hin12 : ¬ ((1 : Int32) < 0 ∨ cl12.slots.size ≤ ((1 : Int32)).toNatClampNeg) := inb_of S12 ⟨by decide, by decide⟩
  obtain ⟨T12, h12, X12, e12, W12, st12⟩ := stD X8 hx hZ e8 Ar12 (j := (1 : Int32)) hin12 (g := (mkF m 12 #[.val (.int p0), .val (.int p1), .val (.int p2), .val (.int p3), .val (.int p4), .unset, .unset, .unset, .unset, .unset, .unset, .unset, .unset, .unset, .unset] [(.double (FP.l2d (p1.toInt64))), (.int 1), (.ref b1), (.ref b1)])) rfl rfl (hb hby at_12)
  have V13 : Arv Z h12 b1 k1 .double (4 : Int32) [(.double (FP.l2d (p0.toInt64))), (.double (FP.l2d (p1.toInt64))), (.double (FP.l2d 0)), (.double (FP.l2d 0))] (.double (FP.l2d 0)) := Arv.set Ar12 q12 S12 M12 H12 G12 rfl W12 1 rfl (Nat.le_of_ble_eq_true rfl)
  have K14 := K10.wr W12 (Or.inr sz3)
  have O15 := O11.wr W12 g4
  have N12 := Fr.snoc X12 N8 g4
  refine Go.st st12 ?_
  show Go _ _ _ _ _ _ _ (T12.setTop (mkF m 13 _ [(.ref b1)]))
  refine Go.st (t' := T12.setTop (mkF m 17 #[.val (.int p0), .val (.int p1), .val (.int p2), .val (.int p3), .val (.int p4), .unset, .unset, .unset, .unset, .unset, .unset, .unset, .unset, .unset, .unset] [(.double (FP.l2d (p2.toInt64))), (.int 2), (.ref b1), (.ref b1)])) (fun target kt => ?_) ?_
  · refine XS.dup X12.here hx rfl (hb hby at_13) rfl rfl ?_
    show Steps p.tables e below (T12.setTop (mkF m 14 _ [(.ref b1), (.ref b1)])) target
    refine XS.iconst X12.here hx rfl (hb hby at_14) ?_
    show Steps p.tables e below (T12.setTop (mkF m 15 _ [(.int 2), (.ref b1), (.ref b1)])) target
    refine XS.iloadN X12.here hx rfl (hb hby at_15) rfl ?_
    show Steps p.tables e below (T12.setTop (mkF m 16 _ [(.int p2), (.int 2), (.ref b1), (.ref b1)])) target
    refine XS.i2dS X12.here hx rfl (hb hby at_16) rfl (i2d_w p2) ?_
    exact kt
  obtain ⟨cl16, Ar16, q16, S16, M16, H16, G16⟩ := id V13
  have hin16 : ¬ ((2 : Int32) < 0 ∨ cl16.slots.size ≤ ((2 : Int32)).toNatClampNeg) := inb_of S16 ⟨by decide, by decide⟩
  obtain ⟨T16, h16, X16, e16, W16, st16⟩ := stD X12 hx hZ e12 Ar16 (j := (2 : Int32)) hin16 (g := (mkF m 17 #[.val (.int p0), .val (.int p1), .val (.int p2), .val (.int p3), .val (.int p4), .unset, .unset, .unset, .unset, .unset, .unset, .unset, .unset, .unset, .unset] [(.double (FP.l2d (p2.toInt64))), (.int 2), (.ref b1), (.ref b1)])) rfl rfl (hb hby at_17)
  have V17 : Arv Z h16 b1 k1 .double (4 : Int32) [(.double (FP.l2d (p0.toInt64))), (.double (FP.l2d (p1.toInt64))), (.double (FP.l2d (p2.toInt64))), (.double (FP.l2d 0))] (.double (FP.l2d 0)) := Arv.set Ar16 q16 S16 M16 H16 G16 rfl W16 2 rfl (Nat.le_of_ble_eq_true rfl)
  have K18 := K14.wr W16 (Or.inr sz3)
  have O19 := O15.wr W16 g4
  have N16 := Fr.snoc X16 N12 g4
  refine Go.st st16 ?_
  show Go _ _ _ _ _ _ _ (T16.setTop (mkF m 18 _ [(.ref b1)]))
  refine Go.st (t' := T16.setTop (mkF m 22 #[.val (.int p0), .val (.int p1), .val (.int p2), .val (.int p3), .val (.int p4), .unset, .unset, .unset, .unset, .unset, .unset, .unset, .unset, .unset, .unset] [(.double (FP.l2d (p3.toInt64))), (.int 3), (.ref b1), (.ref b1)])) (fun target kt => ?_) ?_
  · refine XS.dup X16.here hx rfl (hb hby at_18) rfl rfl ?_
    show Steps p.tables e below (T16.setTop (mkF m 19 _ [(.ref b1), (.ref b1)])) target
    refine XS.iconst X16.here hx rfl (hb hby at_19) ?_
    show Steps p.tables e below (T16.setTop (mkF m 20 _ [(.int 3), (.ref b1), (.ref b1)])) target
    refine XS.iloadN X16.here hx rfl (hb hby at_20) rfl ?_
    show Steps p.tables e below (T16.setTop (mkF m 21 _ [(.int p3), (.int 3), (.ref b1), (.ref b1)])) target
    refine XS.i2dS X16.here hx rfl (hb hby at_21) rfl (i2d_w p3) ?_
    exact kt
  obtain ⟨cl20, Ar20, q20, S20, M20, H20, G20⟩ := id V17
  have hin20 : ¬ ((3 : Int32) < 0 ∨ cl20.slots.size ≤ ((3 : Int32)).toNatClampNeg) := inb_of S20 ⟨by decide, by decide⟩
  obtain ⟨T20, h20, X20, e20, W20, st20⟩ := stD X16 hx hZ e16 Ar20 (j := (3 : Int32)) hin20 (g := (mkF m 22 #[.val (.int p0), .val (.int p1), .val (.int p2), .val (.int p3), .val (.int p4), .unset, .unset, .unset, .unset, .unset, .unset, .unset, .unset, .unset, .unset] [(.double (FP.l2d (p3.toInt64))), (.int 3), (.ref b1), (.ref b1)])) rfl rfl (hb hby at_22)
  have V21 : Arv Z h20 b1 k1 .double (4 : Int32) [(.double (FP.l2d (p0.toInt64))), (.double (FP.l2d (p1.toInt64))), (.double (FP.l2d (p2.toInt64))), (.double (FP.l2d (p3.toInt64)))] (.double (FP.l2d 0)) := Arv.set Ar20 q20 S20 M20 H20 G20 rfl W20 3 rfl (Nat.le_of_ble_eq_true rfl)
  have K22 := K18.wr W20 (Or.inr sz3)
  have O23 := O19.wr W20 g4
  have N20 := Fr.snoc X20 N16 g4
  refine Go.st st20 ?_
  show Go _ _ _ _ _ _ _ (T20.setTop (mkF m 23 _ [(.ref b1)]))
  refine Go.st (t' := T20.setTop (mkF m 56 #[.val (.int p0), .val (.int p1), .val (.int p2), .val (.int p3), .val (.int p4), .val (.ref b1), .val (.int (p4 &&& (3 : Int32))), .val (.int (((p4.toUInt32 >>> ((2 : Int32) &&& 31).toUInt32).toInt32) &&& (3 : Int32))), .val (.int (((p4.toUInt32 >>> ((4 : Int32) &&& 31).toUInt32).toInt32) &&& (3 : Int32))), .val (.int (((p4.toUInt32 >>> ((6 : Int32) &&& 31).toUInt32).toInt32) &&& (3 : Int32))), .unset, .unset, .unset, .unset, .unset] [])) (fun target kt => ?_) ?_
  · refine XS.astore X20.here hx rfl (hb hby at_23) rfl rfl (l' := #[.val (.int p0), .val (.int p1), .val (.int p2), .val (.int p3), .val (.int p4), .val (.ref b1), .unset, .unset, .unset, .unset, .unset, .unset, .unset, .unset, .unset]) rfl ?_
    show Steps p.tables e below (T20.setTop (mkF m 25 _ [])) target
    refine XS.iload X20.here hx rfl (hb hby at_25) rfl ?_
    show Steps p.tables e below (T20.setTop (mkF m 27 _ [(.int p4)])) target
    refine XS.iconst X20.here hx rfl (hb hby at_27) ?_
    show Steps p.tables e below (T20.setTop (mkF m 28 _ [(.int 3), (.int p4)])) target
    refine XS.iand X20.here hx rfl (hb hby at_28) rfl ?_
    show Steps p.tables e below (T20.setTop (mkF m 29 _ [(.int (p4 &&& (3 : Int32)))])) target
    refine XS.istore X20.here hx rfl (hb hby at_29) rfl (l' := #[.val (.int p0), .val (.int p1), .val (.int p2), .val (.int p3), .val (.int p4), .val (.ref b1), .val (.int (p4 &&& (3 : Int32))), .unset, .unset, .unset, .unset, .unset, .unset, .unset, .unset]) rfl ?_
    show Steps p.tables e below (T20.setTop (mkF m 31 _ [])) target
    refine XS.iload X20.here hx rfl (hb hby at_31) rfl ?_
    show Steps p.tables e below (T20.setTop (mkF m 33 _ [(.int p4)])) target
    refine XS.iconst X20.here hx rfl (hb hby at_33) ?_
    show Steps p.tables e below (T20.setTop (mkF m 34 _ [(.int 2), (.int p4)])) target
    refine XS.iushr X20.here hx rfl (hb hby at_34) rfl ?_
    show Steps p.tables e below (T20.setTop (mkF m 35 _ [(.int ((p4.toUInt32 >>> ((2 : Int32) &&& 31).toUInt32).toInt32))])) target
    refine XS.iconst X20.here hx rfl (hb hby at_35) ?_
    show Steps p.tables e below (T20.setTop (mkF m 36 _ [(.int 3), (.int ((p4.toUInt32 >>> ((2 : Int32) &&& 31).toUInt32).toInt32))])) target
    refine XS.iand X20.here hx rfl (hb hby at_36) rfl ?_
    show Steps p.tables e below (T20.setTop (mkF m 37 _ [(.int (((p4.toUInt32 >>> ((2 : Int32) &&& 31).toUInt32).toInt32) &&& (3 : Int32)))])) target
    refine XS.istore X20.here hx rfl (hb hby at_37) rfl (l' := #[.val (.int p0), .val (.int p1), .val (.int p2), .val (.int p3), .val (.int p4), .val (.ref b1), .val (.int (p4 &&& (3 : Int32))), .val (.int (((p4.toUInt32 >>> ((2 : Int32) &&& 31).toUInt32).toInt32) &&& (3 : Int32))), .unset, .unset, .unset, .unset, .unset, .unset, .unset]) rfl ?_
    show Steps p.tables e below (T20.setTop (mkF m 39 _ [])) target
    refine XS.iload X20.here hx rfl (hb hby at_39) rfl ?_
    show Steps p.tables e below (T20.setTop (mkF m 41 _ [(.int p4)])) target
    refine XS.iconst X20.here hx rfl (hb hby at_41) ?_
    show Steps p.tables e below (T20.setTop (mkF m 42 _ [(.int 4), (.int p4)])) target
    refine XS.iushr X20.here hx rfl (hb hby at_42) rfl ?_
    show Steps p.tables e below (T20.setTop (mkF m 43 _ [(.int ((p4.toUInt32 >>> ((4 : Int32) &&& 31).toUInt32).toInt32))])) target
    refine XS.iconst X20.here hx rfl (hb hby at_43) ?_
    show Steps p.tables e below (T20.setTop (mkF m 44 _ [(.int 3), (.int ((p4.toUInt32 >>> ((4 : Int32) &&& 31).toUInt32).toInt32))])) target
    refine XS.iand X20.here hx rfl (hb hby at_44) rfl ?_
    show Steps p.tables e below (T20.setTop (mkF m 45 _ [(.int (((p4.toUInt32 >>> ((4 : Int32) &&& 31).toUInt32).toInt32) &&& (3 : Int32)))])) target
    refine XS.istore X20.here hx rfl (hb hby at_45) rfl (l' := #[.val (.int p0), .val (.int p1), .val (.int p2), .val (.int p3), .val (.int p4), .val (.ref b1), .val (.int (p4 &&& (3 : Int32))), .val (.int (((p4.toUInt32 >>> ((2 : Int32) &&& 31).toUInt32).toInt32) &&& (3 : Int32))), .val (.int (((p4.toUInt32 >>> ((4 : Int32) &&& 31).toUInt32).toInt32) &&& (3 : Int32))), .unset, .unset, .unset, .unset, .unset, .unset]) rfl ?_
    show Steps p.tables e below (T20.setTop (mkF m 47 _ [])) target
    refine XS.iload X20.here hx rfl (hb hby at_47) rfl ?_
    show Steps p.tables e below (T20.setTop (mkF m 49 _ [(.int p4)])) target
    refine XS.bipush X20.here hx rfl (hb hby at_49) ?_
    show Steps p.tables e below (T20.setTop (mkF m 51 _ [(.int 6), (.int p4)])) target
    refine XS.iushr X20.here hx rfl (hb hby at_51) rfl ?_
    show Steps p.tables e below (T20.setTop (mkF m 52 _ [(.int ((p4.toUInt32 >>> ((6 : Int32) &&& 31).toUInt32).toInt32))])) target
    refine XS.iconst X20.here hx rfl (hb hby at_52) ?_
    show Steps p.tables e below (T20.setTop (mkF m 53 _ [(.int 3), (.int ((p4.toUInt32 >>> ((6 : Int32) &&& 31).toUInt32).toInt32))])) target
    refine XS.iand X20.here hx rfl (hb hby at_53) rfl ?_
    show Steps p.tables e below (T20.setTop (mkF m 54 _ [(.int (((p4.toUInt32 >>> ((6 : Int32) &&& 31).toUInt32).toInt32) &&& (3 : Int32)))])) target
    refine XS.istore X20.here hx rfl (hb hby at_54) rfl (l' := #[.val (.int p0), .val (.int p1), .val (.int p2), .val (.int p3), .val (.int p4), .val (.ref b1), .val (.int (p4 &&& (3 : Int32))), .val (.int (((p4.toUInt32 >>> ((2 : Int32) &&& 31).toUInt32).toInt32) &&& (3 : Int32))), .val (.int (((p4.toUInt32 >>> ((4 : Int32) &&& 31).toUInt32).toInt32) &&& (3 : Int32))), .val (.int (((p4.toUInt32 >>> ((6 : Int32) &&& 31).toUInt32).toInt32) &&& (3 : Int32))), .unset, .unset, .unset, .unset, .unset]) rfl ?_
    exact kt
  obtain ⟨ja, h_ja⟩ : ∃ z, z = (((p4.toUInt32 >>> ((2 : Int32) &&& 31).toUInt32).toInt32) &&& (3 : Int32)) := ⟨_, rfl⟩
  rw [← h_ja]
  show Go _ _ _ _ _ _ _ (T20.setTop (mkF m 56 _ []))
  have hb_ja : 0 ≤ ja.toInt ∧ ja.toInt < 4 := by rw [h_ja]; exact own_bd _
  obtain ⟨jb, h_jb⟩ : ∃ z, z = (((p4.toUInt32 >>> ((4 : Int32) &&& 31).toUInt32).toInt32) &&& (3 : Int32)) := ⟨_, rfl⟩
  rw [← h_jb]
  show Go _ _ _ _ _ _ _ (T20.setTop (mkF m 56 _ []))
  have hb_jb : 0 ≤ jb.toInt ∧ jb.toInt < 4 := by rw [h_jb]; exact own_bd _
  obtain ⟨jc, h_jc⟩ : ∃ z, z = (((p4.toUInt32 >>> ((6 : Int32) &&& 31).toUInt32).toInt32) &&& (3 : Int32)) := ⟨_, rfl⟩
  rw [← h_jc]
  show Go _ _ _ _ _ _ _ (T20.setTop (mkF m 56 _ []))
  have hb_jc : 0 ≤ jc.toInt ∧ jc.toInt < 4 := by rw [h_jc]; exact own_bd _
  rcases (own_and3 p4 : (p4 &&& (3 : Int32)) = (0 : Int32) ∨ (p4 &&& (3 : Int32)) = (1 : Int32) ∨ (p4 &&& (3 : Int32)) = (2 : Int32) ∨ (p4 &&& (3 : Int32)) = (3 : Int32)) with hk | hk | hk | hk
  · have hk_ := hk
    rw [hk]
    show Go _ _ _ _ _ _ _ (T20.setTop (mkF m 56 _ []))
    refine Go.st (t' := T20.setTop (mkF m 64 #[.val (.int p0), .val (.int p1), .val (.int p2), .val (.int p3), .val (.int p4), .val (.ref b1), .val (.int 0), .val (.int ja), .val (.int jb), .val (.int jc), .unset, .unset, .unset, .unset, .unset] [(.int jc), (.int jb), (.int ja), (.int 0)])) (fun target kt => ?_) ?_
    · refine XS.iload X20.here hx rfl (hb hby at_56) rfl ?_
      show Steps p.tables e below (T20.setTop (mkF m 58 _ [(.int 0)])) target
      refine XS.iload X20.here hx rfl (hb hby at_58) rfl ?_
      show Steps p.tables e below (T20.setTop (mkF m 60 _ [(.int ja), (.int 0)])) target
      refine XS.iload X20.here hx rfl (hb hby at_60) rfl ?_
      show Steps p.tables e below (T20.setTop (mkF m 62 _ [(.int jb), (.int ja), (.int 0)])) target
      refine XS.iload X20.here hx rfl (hb hby at_62) rfl ?_
      exact kt
    obtain ⟨_, _, ⟨T24, L24, k24, n24⟩, -, X24, ⟨Lc24, hQ24, l24, y24, z24⟩, st24⟩ := Jvm.LawKit.callS X20 hx (y := (⟨"com/example/count_calibrated_demand/countcalibrateddemand/CountCorrectionCorrectionPinLaw", "metOf", "(IIII)[I"⟩ : MethodName)) hown (mvT hZ (hw _ tw1)) (mvT hZ (hw _ tw2)) (mvT hZ (hw _ tw3)) (mvT hZ (hw _ tw4)) (by decide) (backOf (W := 0) (rm1_0 l Z a0 hw [] ja jb jc h20 n0 (Nat.le_trans Z0 K22.1) O23  ) hZ (hw _ tw4) (hw _ tw3) (by decide) (by decide)) (g := (mkF m 64 #[.val (.int p0), .val (.int p1), .val (.int p2), .val (.int p3), .val (.int p4), .val (.ref b1), .val (.int 0), .val (.int ja), .val (.int jb), .val (.int jc), .unset, .unset, .unset, .unset, .unset] [(.int jc), (.int jb), (.int ja), (.int 0)])) rfl (by rw [hml]; rfl) (argsL := [(.int 0), (.int ja), (.int jb), (.int jc)]) (rest := []) (lenOf pd0 rfl) rfl (by show 2 * 0 + _ ≤ _; exact Nat.le_of_eq rfl) (hb hby at_64) (fun _ _ => ⟨rfl, e20, (by decide : 1 + 1 ≤ _), (by decide : 4 + 0 ≤ _)⟩)
    dsimp only [Pt.U, Pt.locs, Pt.cells, Pt.slots] at X24 l24 y24 z24 st24 hQ24
    subst l24 y24 z24
    obtain ⟨b25, k26, rfl, Nq24, Kq24, q27, q28⟩ := hQ24
    have N24 := Fr.app N20 Nq24
    have sz29 : h0.size ≤ b25 := Nat.le_trans K22.1 q27
    have g30 : n0 ≤ b25 := Nat.le_trans Z0 sz29
    have K31 := K22.trans Kq24 all0
    have O32 := O23.keep Kq24 all0
    refine Go.st st24 ?_
    show Go _ _ _ _ _ _ _ (T24.setTop (mkF m 67 _ [(.ref b25)]))
    refine Go.st (t' := T24.setTop (mkF m 136 #[.val (.int p0), .val (.int p1), .val (.int p2), .val (.int p3), .val (.int p4), .val (.ref b1), .val (.int 0), .val (.int ja), .val (.int jb), .val (.int jc), .val (.ref b25), .val (.long (0 : Int64)), .second, .unset, .unset] [(.ref b1), (.ref b25)])) (fun target kt => ?_) ?_
    · refine XS.astore X24.here hx rfl (hb hby at_67) rfl rfl (l' := #[.val (.int p0), .val (.int p1), .val (.int p2), .val (.int p3), .val (.int p4), .val (.ref b1), .val (.int 0), .val (.int ja), .val (.int jb), .val (.int jc), .val (.ref b25), .unset, .unset, .unset, .unset]) rfl ?_
      show Steps p.tables e below (T24.setTop (mkF m 69 _ [])) target
      refine XS.lconst X24.here hx rfl (hb hby at_69) ?_
      show Steps p.tables e below (T24.setTop (mkF m 70 _ [(.long (0 : Int64))])) target
      refine XS.lstore X24.here hx rfl (hb hby at_70) rfl (l' := #[.val (.int p0), .val (.int p1), .val (.int p2), .val (.int p3), .val (.int p4), .val (.ref b1), .val (.int 0), .val (.int ja), .val (.int jb), .val (.int jc), .val (.ref b25), .val (.long (0 : Int64)), .second, .unset, .unset]) rfl ?_
      show Steps p.tables e below (T24.setTop (mkF m 72 _ [])) target
      refine XS.iload X24.here hx rfl (hb hby at_72) rfl ?_
      show Steps p.tables e below (T24.setTop (mkF m 74 _ [(.int 0)])) target
      refine XS.iconst X24.here hx rfl (hb hby at_74) ?_
      show Steps p.tables e below (T24.setTop (mkF m 75 _ [(.int 1), (.int 0)])) target
      refine XS.icmpYes X24.here hx rfl (pc0 := 75) (pc' := 92) rfl (hb hby at_75) rfl (tlt (by decide : (0 : Int32) < (1 : Int32))).1 (by decide) (by decide) ?_
      show Steps p.tables e below (T24.setTop (mkF m 92 _ [])) target
      refine XS.iload X24.here hx rfl (hb hby at_92) rfl ?_
      show Steps p.tables e below (T24.setTop (mkF m 94 _ [(.int 0)])) target
      refine XS.iconst X24.here hx rfl (hb hby at_94) ?_
      show Steps p.tables e below (T24.setTop (mkF m 95 _ [(.int 2), (.int 0)])) target
      refine XS.icmpYes X24.here hx rfl (pc0 := 95) (pc' := 112) rfl (hb hby at_95) rfl (tlt (by decide : (0 : Int32) < (2 : Int32))).1 (by decide) (by decide) ?_
      show Steps p.tables e below (T24.setTop (mkF m 112 _ [])) target
      refine XS.iload X24.here hx rfl (hb hby at_112) rfl ?_
      show Steps p.tables e below (T24.setTop (mkF m 114 _ [(.int 0)])) target
      refine XS.iconst X24.here hx rfl (hb hby at_114) ?_
      show Steps p.tables e below (T24.setTop (mkF m 115 _ [(.int 3), (.int 0)])) target
      refine XS.icmpYes X24.here hx rfl (pc0 := 115) (pc' := 132) rfl (hb hby at_115) rfl (tlt (by decide : (0 : Int32) < (3 : Int32))).1 (by decide) (by decide) ?_
      show Steps p.tables e below (T24.setTop (mkF m 132 _ [])) target
      refine XS.aload X24.here hx rfl (hb hby at_132) rfl rfl ?_
      show Steps p.tables e below (T24.setTop (mkF m 134 _ [(.ref b25)])) target
      refine XS.aload X24.here hx rfl (hb hby at_134) rfl rfl ?_
      exact kt
    have c33 := V21.keep Kq24 nin0
    obtain ⟨_, _, ⟨T34, L34, k34, n34⟩, -, X34, ⟨Lc34, hQ34, l34, y34, z34⟩, st34⟩ := Jvm.LawKit.callS X24 hx (y := (⟨"com/example/count_calibrated_demand/countcalibrateddemand/CountCorrection", "correction", "([I[D)D"⟩ : MethodName)) hown (mvT hZ (hw _ tw6)) (mvT hZ (hw _ tw7)) (mvT hZ (hw _ tw8)) (mvT hZ (hw _ tw9)) (by decide) (backOf (W := 0) (rm2_0 l Z a0 hw [] b25 b1 k26 k1 p0 p1 p2 p3 T24.heap n0 (Nat.le_trans Z0 K31.1) O32  q28 c33) hZ (hw _ tw9) (hw _ tw8) (by decide) (by decide)) (g := (mkF m 136 #[.val (.int p0), .val (.int p1), .val (.int p2), .val (.int p3), .val (.int p4), .val (.ref b1), .val (.int 0), .val (.int ja), .val (.int jb), .val (.int jc), .val (.ref b25), .val (.long (0 : Int64)), .second, .unset, .unset] [(.ref b1), (.ref b25)])) rfl (by rw [hml]; rfl) (argsL := [(.ref b25), (.ref b1)]) (rest := []) (lenOf pd1 rfl) rfl (by show 2 * 0 + _ ≤ _; exact Nat.le_of_eq rfl) (hb hby at_136) (fun _ _ => ⟨rfl, rfl, (by decide : 2 + 0 ≤ _), (by decide : 4 + 0 ≤ _)⟩)
    dsimp only [Pt.U, Pt.locs, Pt.cells, Pt.slots] at X34 l34 y34 z34 st34 hQ34
    subst l34 y34 z34
    obtain ⟨rfl, Nq34, eq34⟩ := hQ34
    have N34 := Fr.app N24 Nq34
    refine Go.st st34 ?_
    show Go _ _ _ _ _ _ _ (T34.setTop (mkF m 139 _ [(.double (FP.l2d (0 : Int64)))]))
    refine Go.st (t' := T34.setTop (mkF m 155 #[.val (.int p0), .val (.int p1), .val (.int p2), .val (.int p3), .val (.int p4), .val (.ref b1), .val (.int 0), .val (.int ja), .val (.int jb), .val (.int jc), .val (.ref b25), .val (.long (0 : Int64)), .second, .val (.double (FP.l2d (0 : Int64))), .second] [(.int 1)])) (fun target kt => ?_) ?_
    · refine XS.dstore X34.here hx rfl (hb hby at_139) rfl (l' := #[.val (.int p0), .val (.int p1), .val (.int p2), .val (.int p3), .val (.int p4), .val (.ref b1), .val (.int 0), .val (.int ja), .val (.int jb), .val (.int jc), .val (.ref b25), .val (.long (0 : Int64)), .second, .val (.double (FP.l2d (0 : Int64))), .second]) rfl ?_
      show Steps p.tables e below (T34.setTop (mkF m 141 _ [])) target
      refine XS.dload X34.here hx rfl (hb hby at_141) rfl ?_
      show Steps p.tables e below (T34.setTop (mkF m 143 _ [(.double (FP.l2d (0 : Int64)))])) target
      refine XS.lload X34.here hx rfl (hb hby at_143) rfl ?_
      show Steps p.tables e below (T34.setTop (mkF m 145 _ [(.long (0 : Int64)), (.double (FP.l2d (0 : Int64)))])) target
      refine XS.l2dS X34.here hx rfl (hb hby at_145) rfl rfl ?_
      show Steps p.tables e below (T34.setTop (mkF m 146 _ [(.double (FP.l2d (0 : Int64))), (.double (FP.l2d (0 : Int64)))])) target
      refine XS.dcmpS X34.here hx rfl (hb hby at_146) rfl (dcmpV_self (nn_w rfl) _) ?_
      show Steps p.tables e below (T34.setTop (mkF m 147 _ [(.int 0)])) target
      refine XS.ifNo X34.here hx rfl (hb hby at_147) rfl ((if0 _ _).trans (teq (by decide : (0 : Int32) = (0 : Int32))).2) ?_
      show Steps p.tables e below (T34.setTop (mkF m 150 _ [])) target
      refine XS.iconst X34.here hx rfl (hb hby at_150) ?_
      show Steps p.tables e below (T34.setTop (mkF m 151 _ [(.int 1)])) target
      refine XS.goto X34.here hx rfl (pc0 := 151) (pc' := 155) rfl (hb hby at_151) (by decide) (by decide) ?_
      exact kt
    refine Go.ret X34 (v := some (.int 1)) (fun h => by rw [hret] at h; cases h) hlk (fun fs hr => retN X34 hx (t := .boolean) hret (by simp) (hb hby at_155) hr) ?_ (by decide) (by decide)
    show Q0 Z p0 p1 p2 p3 p4 h0 n0 _ T34.heap _
    rw [eq34]
    exact ⟨rfl, N34, K31⟩
  · have hk_ := hk
    rw [hk]
    show Go _ _ _ _ _ _ _ (T20.setTop (mkF m 56 _ []))
    refine Go.st (t' := T20.setTop (mkF m 64 #[.val (.int p0), .val (.int p1), .val (.int p2), .val (.int p3), .val (.int p4), .val (.ref b1), .val (.int 1), .val (.int ja), .val (.int jb), .val (.int jc), .unset, .unset, .unset, .unset, .unset] [(.int jc), (.int jb), (.int ja), (.int 1)])) (fun target kt => ?_) ?_
    · refine XS.iload X20.here hx rfl (hb hby at_56) rfl ?_
      show Steps p.tables e below (T20.setTop (mkF m 58 _ [(.int 1)])) target
      refine XS.iload X20.here hx rfl (hb hby at_58) rfl ?_
      show Steps p.tables e below (T20.setTop (mkF m 60 _ [(.int ja), (.int 1)])) target
      refine XS.iload X20.here hx rfl (hb hby at_60) rfl ?_
      show Steps p.tables e below (T20.setTop (mkF m 62 _ [(.int jb), (.int ja), (.int 1)])) target
      refine XS.iload X20.here hx rfl (hb hby at_62) rfl ?_
      exact kt
    obtain ⟨_, _, ⟨T35, L35, k35, n35⟩, -, X35, ⟨Lc35, hQ35, l35, y35, z35⟩, st35⟩ := Jvm.LawKit.callS X20 hx (y := (⟨"com/example/count_calibrated_demand/countcalibrateddemand/CountCorrectionCorrectionPinLaw", "metOf", "(IIII)[I"⟩ : MethodName)) hown (mvT hZ (hw _ tw1)) (mvT hZ (hw _ tw2)) (mvT hZ (hw _ tw3)) (mvT hZ (hw _ tw4)) (by decide) (backOf (W := 0) (rm1_1 l Z a0 hw [] ja jb jc h20 n0 (Nat.le_trans Z0 K22.1) O23  ) hZ (hw _ tw4) (hw _ tw3) (by decide) (by decide)) (g := (mkF m 64 #[.val (.int p0), .val (.int p1), .val (.int p2), .val (.int p3), .val (.int p4), .val (.ref b1), .val (.int 1), .val (.int ja), .val (.int jb), .val (.int jc), .unset, .unset, .unset, .unset, .unset] [(.int jc), (.int jb), (.int ja), (.int 1)])) rfl (by rw [hml]; rfl) (argsL := [(.int 1), (.int ja), (.int jb), (.int jc)]) (rest := []) (lenOf pd0 rfl) rfl (by show 2 * 0 + _ ≤ _; exact Nat.le_of_eq rfl) (hb hby at_64) (fun _ _ => ⟨rfl, e20, (by decide : 1 + 1 ≤ _), (by decide : 4 + 1 ≤ _)⟩)
    dsimp only [Pt.U, Pt.locs, Pt.cells, Pt.slots] at X35 l35 y35 z35 st35 hQ35
    subst l35 y35 z35
    obtain ⟨b36, k37, rfl, Nq35, Kq35, q38, q39⟩ := hQ35
    have N35 := Fr.app N20 Nq35
    have sz40 : h0.size ≤ b36 := Nat.le_trans K22.1 q38
    have g41 : n0 ≤ b36 := Nat.le_trans Z0 sz40
    have K42 := K22.trans Kq35 all0
    have O43 := O23.keep Kq35 all0
    refine Go.st st35 ?_
    show Go _ _ _ _ _ _ _ (T35.setTop (mkF m 67 _ [(.ref b36)]))
    refine Go.st (t' := T35.setTop (mkF m 86 #[.val (.int p0), .val (.int p1), .val (.int p2), .val (.int p3), .val (.int p4), .val (.ref b1), .val (.int 1), .val (.int ja), .val (.int jb), .val (.int jc), .val (.ref b36), .val (.long (0 : Int64)), .second, .unset, .unset] [(.int p3), (.int p2), (.int p1), (.int p0), (.int ja), (.long (0 : Int64))])) (fun target kt => ?_) ?_
    · refine XS.astore X35.here hx rfl (hb hby at_67) rfl rfl (l' := #[.val (.int p0), .val (.int p1), .val (.int p2), .val (.int p3), .val (.int p4), .val (.ref b1), .val (.int 1), .val (.int ja), .val (.int jb), .val (.int jc), .val (.ref b36), .unset, .unset, .unset, .unset]) rfl ?_
      show Steps p.tables e below (T35.setTop (mkF m 69 _ [])) target
      refine XS.lconst X35.here hx rfl (hb hby at_69) ?_
      show Steps p.tables e below (T35.setTop (mkF m 70 _ [(.long (0 : Int64))])) target
      refine XS.lstore X35.here hx rfl (hb hby at_70) rfl (l' := #[.val (.int p0), .val (.int p1), .val (.int p2), .val (.int p3), .val (.int p4), .val (.ref b1), .val (.int 1), .val (.int ja), .val (.int jb), .val (.int jc), .val (.ref b36), .val (.long (0 : Int64)), .second, .unset, .unset]) rfl ?_
      show Steps p.tables e below (T35.setTop (mkF m 72 _ [])) target
      refine XS.iload X35.here hx rfl (hb hby at_72) rfl ?_
      show Steps p.tables e below (T35.setTop (mkF m 74 _ [(.int 1)])) target
      refine XS.iconst X35.here hx rfl (hb hby at_74) ?_
      show Steps p.tables e below (T35.setTop (mkF m 75 _ [(.int 1), (.int 1)])) target
      refine XS.icmpNo X35.here hx rfl (hb hby at_75) rfl (flt (by decide : ¬ ((1 : Int32) < (1 : Int32)))).1 ?_
      show Steps p.tables e below (T35.setTop (mkF m 78 _ [])) target
      refine XS.lload X35.here hx rfl (hb hby at_78) rfl ?_
      show Steps p.tables e below (T35.setTop (mkF m 80 _ [(.long (0 : Int64))])) target
      refine XS.iload X35.here hx rfl (hb hby at_80) rfl ?_
      show Steps p.tables e below (T35.setTop (mkF m 82 _ [(.int ja), (.long (0 : Int64))])) target
      refine XS.iloadN X35.here hx rfl (hb hby at_82) rfl ?_
      show Steps p.tables e below (T35.setTop (mkF m 83 _ [(.int p0), (.int ja), (.long (0 : Int64))])) target
      refine XS.iloadN X35.here hx rfl (hb hby at_83) rfl ?_
      show Steps p.tables e below (T35.setTop (mkF m 84 _ [(.int p1), (.int p0), (.int ja), (.long (0 : Int64))])) target
      refine XS.iloadN X35.here hx rfl (hb hby at_84) rfl ?_
      show Steps p.tables e below (T35.setTop (mkF m 85 _ [(.int p2), (.int p1), (.int p0), (.int ja), (.long (0 : Int64))])) target
      refine XS.iloadN X35.here hx rfl (hb hby at_85) rfl ?_
      exact kt
    obtain ⟨_, _, ⟨T44, L44, k44, n44⟩, -, X44, ⟨Lc44, hQ44, l44, y44, z44⟩, st44⟩ := Jvm.LawKit.callS X35 hx (y := (⟨"com/example/count_calibrated_demand/countcalibrateddemand/CountCorrectionCorrectionPinLaw", "pick", "(IIIII)J"⟩ : MethodName)) hown (mvT hZ (hw _ tw10)) (mvT hZ (hw _ tw11)) (mvT hZ (hw _ tw3)) (mvT hZ (hw _ tw12)) (by decide) (backOf (W := 2) (rm3 l Z a0 hw [] ja p0 p1 p2 p3 T35.heap n0 (Nat.le_trans Z0 K42.1) O43  ) hZ (hw _ tw12) (hw _ tw3) (by decide) (by decide)) (g := (mkF m 86 #[.val (.int p0), .val (.int p1), .val (.int p2), .val (.int p3), .val (.int p4), .val (.ref b1), .val (.int 1), .val (.int ja), .val (.int jb), .val (.int jc), .val (.ref b36), .val (.long (0 : Int64)), .second, .unset, .unset] [(.int p3), (.int p2), (.int p1), (.int p0), (.int ja), (.long (0 : Int64))])) rfl (by rw [hml]; rfl) (argsL := [(.int ja), (.int p0), (.int p1), (.int p2), (.int p3)]) (rest := [(.long (0 : Int64))]) (lenOf pd2 rfl) rfl (by show 2 * 0 + _ ≤ _; exact Nat.le_of_eq rfl) (hb hby at_86) (fun _ _ => ⟨rfl, rfl, (by decide : 2 + 0 ≤ _), (by decide : 5 + 0 ≤ _)⟩)
    dsimp only [Pt.U, Pt.locs, Pt.cells, Pt.slots] at X44 l44 y44 z44 st44 hQ44
    subst l44 y44 z44
    obtain ⟨rfl, Nq44, eq44⟩ := hQ44
    have N44 := Fr.app N35 Nq44
    refine Go.st st44 ?_
    show Go _ _ _ _ _ _ _ (T44.setTop (mkF m 89 _ [(.long ((own_sel ja p0 p1 p2 p3).toInt64)), (.long (0 : Int64))]))
    refine Go.st (t' := T44.setTop (mkF m 136 #[.val (.int p0), .val (.int p1), .val (.int p2), .val (.int p3), .val (.int p4), .val (.ref b1), .val (.int 1), .val (.int ja), .val (.int jb), .val (.int jc), .val (.ref b36), .val (.long ((0 : Int64) + ((own_sel ja p0 p1 p2 p3).toInt64))), .second, .unset, .unset] [(.ref b1), (.ref b36)])) (fun target kt => ?_) ?_
    · refine XS.ladd X44.here hx rfl (hb hby at_89) rfl ?_
      show Steps p.tables e below (T44.setTop (mkF m 90 _ [(.long ((0 : Int64) + ((own_sel ja p0 p1 p2 p3).toInt64)))])) target
      refine XS.lstore X44.here hx rfl (hb hby at_90) rfl (l' := #[.val (.int p0), .val (.int p1), .val (.int p2), .val (.int p3), .val (.int p4), .val (.ref b1), .val (.int 1), .val (.int ja), .val (.int jb), .val (.int jc), .val (.ref b36), .val (.long ((0 : Int64) + ((own_sel ja p0 p1 p2 p3).toInt64))), .second, .unset, .unset]) rfl ?_
      show Steps p.tables e below (T44.setTop (mkF m 92 _ [])) target
      refine XS.iload X44.here hx rfl (hb hby at_92) rfl ?_
      show Steps p.tables e below (T44.setTop (mkF m 94 _ [(.int 1)])) target
      refine XS.iconst X44.here hx rfl (hb hby at_94) ?_
      show Steps p.tables e below (T44.setTop (mkF m 95 _ [(.int 2), (.int 1)])) target
      refine XS.icmpYes X44.here hx rfl (pc0 := 95) (pc' := 112) rfl (hb hby at_95) rfl (tlt (by decide : (1 : Int32) < (2 : Int32))).1 (by decide) (by decide) ?_
      show Steps p.tables e below (T44.setTop (mkF m 112 _ [])) target
      refine XS.iload X44.here hx rfl (hb hby at_112) rfl ?_
      show Steps p.tables e below (T44.setTop (mkF m 114 _ [(.int 1)])) target
      refine XS.iconst X44.here hx rfl (hb hby at_114) ?_
      show Steps p.tables e below (T44.setTop (mkF m 115 _ [(.int 3), (.int 1)])) target
      refine XS.icmpYes X44.here hx rfl (pc0 := 115) (pc' := 132) rfl (hb hby at_115) rfl (tlt (by decide : (1 : Int32) < (3 : Int32))).1 (by decide) (by decide) ?_
      show Steps p.tables e below (T44.setTop (mkF m 132 _ [])) target
      refine XS.aload X44.here hx rfl (hb hby at_132) rfl rfl ?_
      show Steps p.tables e below (T44.setTop (mkF m 134 _ [(.ref b36)])) target
      refine XS.aload X44.here hx rfl (hb hby at_134) rfl rfl ?_
      exact kt
    have c45 := V21.keep Kq35 nin0
    obtain ⟨_, _, ⟨T46, L46, k46, n46⟩, -, X46, ⟨Lc46, hQ46, l46, y46, z46⟩, st46⟩ := Jvm.LawKit.callS X44 hx (y := (⟨"com/example/count_calibrated_demand/countcalibrateddemand/CountCorrection", "correction", "([I[D)D"⟩ : MethodName)) hown (mvT hZ (hw _ tw6)) (mvT hZ (hw _ tw7)) (mvT hZ (hw _ tw8)) (mvT hZ (hw _ tw9)) (by decide) (backOf (W := 0) (rm2_1 l Z a0 hw [] b36 b1 k37 k1 ja p0 p1 p2 p3 T35.heap n0 (Nat.le_trans Z0 K42.1) O43  q39 c45 hb_ja) hZ (hw _ tw9) (hw _ tw8) (by decide) (by decide)) (g := (mkF m 136 #[.val (.int p0), .val (.int p1), .val (.int p2), .val (.int p3), .val (.int p4), .val (.ref b1), .val (.int 1), .val (.int ja), .val (.int jb), .val (.int jc), .val (.ref b36), .val (.long ((0 : Int64) + ((own_sel ja p0 p1 p2 p3).toInt64))), .second, .unset, .unset] [(.ref b1), (.ref b36)])) rfl (by rw [hml]; rfl) (argsL := [(.ref b36), (.ref b1)]) (rest := []) (lenOf pd1 rfl) rfl (by show 2 * 0 + _ ≤ _; exact Nat.le_of_eq rfl) (hb hby at_136) (fun _ _ => ⟨rfl, eq44, (by decide : 2 + 0 ≤ _), (by decide : 5 + 0 ≤ _)⟩)
    dsimp only [Pt.U, Pt.locs, Pt.cells, Pt.slots] at X46 l46 y46 z46 st46 hQ46
    subst l46 y46 z46
    obtain ⟨rfl, Nq46, eq46⟩ := hQ46
    have N46 := Fr.app N44 Nq46
    refine Go.st st46 ?_
    show Go _ _ _ _ _ _ _ (T46.setTop (mkF m 139 _ [(.double (FP.l2d ((0 : Int64) + ((own_sel ja p0 p1 p2 p3).toInt64))))]))
    refine Go.st (t' := T46.setTop (mkF m 155 #[.val (.int p0), .val (.int p1), .val (.int p2), .val (.int p3), .val (.int p4), .val (.ref b1), .val (.int 1), .val (.int ja), .val (.int jb), .val (.int jc), .val (.ref b36), .val (.long ((0 : Int64) + ((own_sel ja p0 p1 p2 p3).toInt64))), .second, .val (.double (FP.l2d ((0 : Int64) + ((own_sel ja p0 p1 p2 p3).toInt64)))), .second] [(.int 1)])) (fun target kt => ?_) ?_
    · refine XS.dstore X46.here hx rfl (hb hby at_139) rfl (l' := #[.val (.int p0), .val (.int p1), .val (.int p2), .val (.int p3), .val (.int p4), .val (.ref b1), .val (.int 1), .val (.int ja), .val (.int jb), .val (.int jc), .val (.ref b36), .val (.long ((0 : Int64) + ((own_sel ja p0 p1 p2 p3).toInt64))), .second, .val (.double (FP.l2d ((0 : Int64) + ((own_sel ja p0 p1 p2 p3).toInt64)))), .second]) rfl ?_
      show Steps p.tables e below (T46.setTop (mkF m 141 _ [])) target
      refine XS.dload X46.here hx rfl (hb hby at_141) rfl ?_
      show Steps p.tables e below (T46.setTop (mkF m 143 _ [(.double (FP.l2d ((0 : Int64) + ((own_sel ja p0 p1 p2 p3).toInt64))))])) target
      refine XS.lload X46.here hx rfl (hb hby at_143) rfl ?_
      show Steps p.tables e below (T46.setTop (mkF m 145 _ [(.long ((0 : Int64) + ((own_sel ja p0 p1 p2 p3).toInt64))), (.double (FP.l2d ((0 : Int64) + ((own_sel ja p0 p1 p2 p3).toInt64))))])) target
      refine XS.l2dS X46.here hx rfl (hb hby at_145) rfl rfl ?_
      show Steps p.tables e below (T46.setTop (mkF m 146 _ [(.double (FP.l2d ((0 : Int64) + ((own_sel ja p0 p1 p2 p3).toInt64)))), (.double (FP.l2d ((0 : Int64) + ((own_sel ja p0 p1 p2 p3).toInt64))))])) target
      refine XS.dcmpS X46.here hx rfl (hb hby at_146) rfl (dcmpV_self (nn_w rfl) _) ?_
      show Steps p.tables e below (T46.setTop (mkF m 147 _ [(.int 0)])) target
      refine XS.ifNo X46.here hx rfl (hb hby at_147) rfl ((if0 _ _).trans (teq (by decide : (0 : Int32) = (0 : Int32))).2) ?_
      show Steps p.tables e below (T46.setTop (mkF m 150 _ [])) target
      refine XS.iconst X46.here hx rfl (hb hby at_150) ?_
      show Steps p.tables e below (T46.setTop (mkF m 151 _ [(.int 1)])) target
      refine XS.goto X46.here hx rfl (pc0 := 151) (pc' := 155) rfl (hb hby at_151) (by decide) (by decide) ?_
      exact kt
    refine Go.ret X46 (v := some (.int 1)) (fun h => by rw [hret] at h; cases h) hlk (fun fs hr => retN X46 hx (t := .boolean) hret (by simp) (hb hby at_155) hr) ?_ (by decide) (by decide)
    show Q0 Z p0 p1 p2 p3 p4 h0 n0 _ T46.heap _
    rw [eq46]
    exact ⟨rfl, N46, K42⟩
  · have hk_ := hk
    rw [hk]
    show Go _ _ _ _ _ _ _ (T20.setTop (mkF m 56 _ []))
    refine Go.st (t' := T20.setTop (mkF m 64 #[.val (.int p0), .val (.int p1), .val (.int p2), .val (.int p3), .val (.int p4), .val (.ref b1), .val (.int 2), .val (.int ja), .val (.int jb), .val (.int jc), .unset, .unset, .unset, .unset, .unset] [(.int jc), (.int jb), (.int ja), (.int 2)])) (fun target kt => ?_) ?_
    · refine XS.iload X20.here hx rfl (hb hby at_56) rfl ?_
      show Steps p.tables e below (T20.setTop (mkF m 58 _ [(.int 2)])) target
      refine XS.iload X20.here hx rfl (hb hby at_58) rfl ?_
      show Steps p.tables e below (T20.setTop (mkF m 60 _ [(.int ja), (.int 2)])) target
      refine XS.iload X20.here hx rfl (hb hby at_60) rfl ?_
      show Steps p.tables e below (T20.setTop (mkF m 62 _ [(.int jb), (.int ja), (.int 2)])) target
      refine XS.iload X20.here hx rfl (hb hby at_62) rfl ?_
      exact kt
    obtain ⟨_, _, ⟨T47, L47, k47, n47⟩, -, X47, ⟨Lc47, hQ47, l47, y47, z47⟩, st47⟩ := Jvm.LawKit.callS X20 hx (y := (⟨"com/example/count_calibrated_demand/countcalibrateddemand/CountCorrectionCorrectionPinLaw", "metOf", "(IIII)[I"⟩ : MethodName)) hown (mvT hZ (hw _ tw1)) (mvT hZ (hw _ tw2)) (mvT hZ (hw _ tw3)) (mvT hZ (hw _ tw4)) (by decide) (backOf (W := 0) (rm1_2 l Z a0 hw [] ja jb jc h20 n0 (Nat.le_trans Z0 K22.1) O23  ) hZ (hw _ tw4) (hw _ tw3) (by decide) (by decide)) (g := (mkF m 64 #[.val (.int p0), .val (.int p1), .val (.int p2), .val (.int p3), .val (.int p4), .val (.ref b1), .val (.int 2), .val (.int ja), .val (.int jb), .val (.int jc), .unset, .unset, .unset, .unset, .unset] [(.int jc), (.int jb), (.int ja), (.int 2)])) rfl (by rw [hml]; rfl) (argsL := [(.int 2), (.int ja), (.int jb), (.int jc)]) (rest := []) (lenOf pd0 rfl) rfl (by show 2 * 0 + _ ≤ _; exact Nat.le_of_eq rfl) (hb hby at_64) (fun _ _ => ⟨rfl, e20, (by decide : 1 + 1 ≤ _), (by decide : 4 + 2 ≤ _)⟩)
    dsimp only [Pt.U, Pt.locs, Pt.cells, Pt.slots] at X47 l47 y47 z47 st47 hQ47
    subst l47 y47 z47
    obtain ⟨b48, k49, rfl, Nq47, Kq47, q50, q51⟩ := hQ47
    have N47 := Fr.app N20 Nq47
    have sz52 : h0.size ≤ b48 := Nat.le_trans K22.1 q50
    have g53 : n0 ≤ b48 := Nat.le_trans Z0 sz52
    have K54 := K22.trans Kq47 all0
    have O55 := O23.keep Kq47 all0
    refine Go.st st47 ?_
    show Go _ _ _ _ _ _ _ (T47.setTop (mkF m 67 _ [(.ref b48)]))
    refine Go.st (t' := T47.setTop (mkF m 86 #[.val (.int p0), .val (.int p1), .val (.int p2), .val (.int p3), .val (.int p4), .val (.ref b1), .val (.int 2), .val (.int ja), .val (.int jb), .val (.int jc), .val (.ref b48), .val (.long (0 : Int64)), .second, .unset, .unset] [(.int p3), (.int p2), (.int p1), (.int p0), (.int ja), (.long (0 : Int64))])) (fun target kt => ?_) ?_
    · refine XS.astore X47.here hx rfl (hb hby at_67) rfl rfl (l' := #[.val (.int p0), .val (.int p1), .val (.int p2), .val (.int p3), .val (.int p4), .val (.ref b1), .val (.int 2), .val (.int ja), .val (.int jb), .val (.int jc), .val (.ref b48), .unset, .unset, .unset, .unset]) rfl ?_
      show Steps p.tables e below (T47.setTop (mkF m 69 _ [])) target
      refine XS.lconst X47.here hx rfl (hb hby at_69) ?_
      show Steps p.tables e below (T47.setTop (mkF m 70 _ [(.long (0 : Int64))])) target
      refine XS.lstore X47.here hx rfl (hb hby at_70) rfl (l' := #[.val (.int p0), .val (.int p1), .val (.int p2), .val (.int p3), .val (.int p4), .val (.ref b1), .val (.int 2), .val (.int ja), .val (.int jb), .val (.int jc), .val (.ref b48), .val (.long (0 : Int64)), .second, .unset, .unset]) rfl ?_
      show Steps p.tables e below (T47.setTop (mkF m 72 _ [])) target
      refine XS.iload X47.here hx rfl (hb hby at_72) rfl ?_
      show Steps p.tables e below (T47.setTop (mkF m 74 _ [(.int 2)])) target
      refine XS.iconst X47.here hx rfl (hb hby at_74) ?_
      show Steps p.tables e below (T47.setTop (mkF m 75 _ [(.int 1), (.int 2)])) target
      refine XS.icmpNo X47.here hx rfl (hb hby at_75) rfl (flt (by decide : ¬ ((2 : Int32) < (1 : Int32)))).1 ?_
      show Steps p.tables e below (T47.setTop (mkF m 78 _ [])) target
      refine XS.lload X47.here hx rfl (hb hby at_78) rfl ?_
      show Steps p.tables e below (T47.setTop (mkF m 80 _ [(.long (0 : Int64))])) target
      refine XS.iload X47.here hx rfl (hb hby at_80) rfl ?_
      show Steps p.tables e below (T47.setTop (mkF m 82 _ [(.int ja), (.long (0 : Int64))])) target
      refine XS.iloadN X47.here hx rfl (hb hby at_82) rfl ?_
      show Steps p.tables e below (T47.setTop (mkF m 83 _ [(.int p0), (.int ja), (.long (0 : Int64))])) target
      refine XS.iloadN X47.here hx rfl (hb hby at_83) rfl ?_
      show Steps p.tables e below (T47.setTop (mkF m 84 _ [(.int p1), (.int p0), (.int ja), (.long (0 : Int64))])) target
      refine XS.iloadN X47.here hx rfl (hb hby at_84) rfl ?_
      show Steps p.tables e below (T47.setTop (mkF m 85 _ [(.int p2), (.int p1), (.int p0), (.int ja), (.long (0 : Int64))])) target
      refine XS.iloadN X47.here hx rfl (hb hby at_85) rfl ?_
      exact kt
    obtain ⟨_, _, ⟨T56, L56, k56, n56⟩, -, X56, ⟨Lc56, hQ56, l56, y56, z56⟩, st56⟩ := Jvm.LawKit.callS X47 hx (y := (⟨"com/example/count_calibrated_demand/countcalibrateddemand/CountCorrectionCorrectionPinLaw", "pick", "(IIIII)J"⟩ : MethodName)) hown (mvT hZ (hw _ tw10)) (mvT hZ (hw _ tw11)) (mvT hZ (hw _ tw3)) (mvT hZ (hw _ tw12)) (by decide) (backOf (W := 2) (rm3 l Z a0 hw [] ja p0 p1 p2 p3 T47.heap n0 (Nat.le_trans Z0 K54.1) O55  ) hZ (hw _ tw12) (hw _ tw3) (by decide) (by decide)) (g := (mkF m 86 #[.val (.int p0), .val (.int p1), .val (.int p2), .val (.int p3), .val (.int p4), .val (.ref b1), .val (.int 2), .val (.int ja), .val (.int jb), .val (.int jc), .val (.ref b48), .val (.long (0 : Int64)), .second, .unset, .unset] [(.int p3), (.int p2), (.int p1), (.int p0), (.int ja), (.long (0 : Int64))])) rfl (by rw [hml]; rfl) (argsL := [(.int ja), (.int p0), (.int p1), (.int p2), (.int p3)]) (rest := [(.long (0 : Int64))]) (lenOf pd2 rfl) rfl (by show 2 * 0 + _ ≤ _; exact Nat.le_of_eq rfl) (hb hby at_86) (fun _ _ => ⟨rfl, rfl, (by decide : 2 + 0 ≤ _), (by decide : 6 + 0 ≤ _)⟩)
    dsimp only [Pt.U, Pt.locs, Pt.cells, Pt.slots] at X56 l56 y56 z56 st56 hQ56
    subst l56 y56 z56
    obtain ⟨rfl, Nq56, eq56⟩ := hQ56
    have N56 := Fr.app N47 Nq56
    refine Go.st st56 ?_
    show Go _ _ _ _ _ _ _ (T56.setTop (mkF m 89 _ [(.long ((own_sel ja p0 p1 p2 p3).toInt64)), (.long (0 : Int64))]))
    refine Go.st (t' := T56.setTop (mkF m 106 #[.val (.int p0), .val (.int p1), .val (.int p2), .val (.int p3), .val (.int p4), .val (.ref b1), .val (.int 2), .val (.int ja), .val (.int jb), .val (.int jc), .val (.ref b48), .val (.long ((0 : Int64) + ((own_sel ja p0 p1 p2 p3).toInt64))), .second, .unset, .unset] [(.int p3), (.int p2), (.int p1), (.int p0), (.int jb), (.long ((0 : Int64) + ((own_sel ja p0 p1 p2 p3).toInt64)))])) (fun target kt => ?_) ?_
    · refine XS.ladd X56.here hx rfl (hb hby at_89) rfl ?_
      show Steps p.tables e below (T56.setTop (mkF m 90 _ [(.long ((0 : Int64) + ((own_sel ja p0 p1 p2 p3).toInt64)))])) target
      refine XS.lstore X56.here hx rfl (hb hby at_90) rfl (l' := #[.val (.int p0), .val (.int p1), .val (.int p2), .val (.int p3), .val (.int p4), .val (.ref b1), .val (.int 2), .val (.int ja), .val (.int jb), .val (.int jc), .val (.ref b48), .val (.long ((0 : Int64) + ((own_sel ja p0 p1 p2 p3).toInt64))), .second, .unset, .unset]) rfl ?_
      show Steps p.tables e below (T56.setTop (mkF m 92 _ [])) target
      refine XS.iload X56.here hx rfl (hb hby at_92) rfl ?_
      show Steps p.tables e below (T56.setTop (mkF m 94 _ [(.int 2)])) target
      refine XS.iconst X56.here hx rfl (hb hby at_94) ?_
      show Steps p.tables e below (T56.setTop (mkF m 95 _ [(.int 2), (.int 2)])) target
      refine XS.icmpNo X56.here hx rfl (hb hby at_95) rfl (flt (by decide : ¬ ((2 : Int32) < (2 : Int32)))).1 ?_
      show Steps p.tables e below (T56.setTop (mkF m 98 _ [])) target
      refine XS.lload X56.here hx rfl (hb hby at_98) rfl ?_
      show Steps p.tables e below (T56.setTop (mkF m 100 _ [(.long ((0 : Int64) + ((own_sel ja p0 p1 p2 p3).toInt64)))])) target
      refine XS.iload X56.here hx rfl (hb hby at_100) rfl ?_
      show Steps p.tables e below (T56.setTop (mkF m 102 _ [(.int jb), (.long ((0 : Int64) + ((own_sel ja p0 p1 p2 p3).toInt64)))])) target
      refine XS.iloadN X56.here hx rfl (hb hby at_102) rfl ?_
      show Steps p.tables e below (T56.setTop (mkF m 103 _ [(.int p0), (.int jb), (.long ((0 : Int64) + ((own_sel ja p0 p1 p2 p3).toInt64)))])) target
      refine XS.iloadN X56.here hx rfl (hb hby at_103) rfl ?_
      show Steps p.tables e below (T56.setTop (mkF m 104 _ [(.int p1), (.int p0), (.int jb), (.long ((0 : Int64) + ((own_sel ja p0 p1 p2 p3).toInt64)))])) target
      refine XS.iloadN X56.here hx rfl (hb hby at_104) rfl ?_
      show Steps p.tables e below (T56.setTop (mkF m 105 _ [(.int p2), (.int p1), (.int p0), (.int jb), (.long ((0 : Int64) + ((own_sel ja p0 p1 p2 p3).toInt64)))])) target
      refine XS.iloadN X56.here hx rfl (hb hby at_105) rfl ?_
      exact kt
    obtain ⟨_, _, ⟨T57, L57, k57, n57⟩, -, X57, ⟨Lc57, hQ57, l57, y57, z57⟩, st57⟩ := Jvm.LawKit.callS X56 hx (y := (⟨"com/example/count_calibrated_demand/countcalibrateddemand/CountCorrectionCorrectionPinLaw", "pick", "(IIIII)J"⟩ : MethodName)) hown (mvT hZ (hw _ tw10)) (mvT hZ (hw _ tw11)) (mvT hZ (hw _ tw3)) (mvT hZ (hw _ tw12)) (by decide) (backOf (W := 2) (rm3 l Z a0 hw [] jb p0 p1 p2 p3 T47.heap n0 (Nat.le_trans Z0 K54.1) O55  ) hZ (hw _ tw12) (hw _ tw3) (by decide) (by decide)) (g := (mkF m 106 #[.val (.int p0), .val (.int p1), .val (.int p2), .val (.int p3), .val (.int p4), .val (.ref b1), .val (.int 2), .val (.int ja), .val (.int jb), .val (.int jc), .val (.ref b48), .val (.long ((0 : Int64) + ((own_sel ja p0 p1 p2 p3).toInt64))), .second, .unset, .unset] [(.int p3), (.int p2), (.int p1), (.int p0), (.int jb), (.long ((0 : Int64) + ((own_sel ja p0 p1 p2 p3).toInt64)))])) rfl (by rw [hml]; rfl) (argsL := [(.int jb), (.int p0), (.int p1), (.int p2), (.int p3)]) (rest := [(.long ((0 : Int64) + ((own_sel ja p0 p1 p2 p3).toInt64)))]) (lenOf pd2 rfl) rfl (by show 2 * 0 + _ ≤ _; exact Nat.le_of_eq rfl) (hb hby at_106) (fun _ _ => ⟨rfl, eq56, (by decide : 2 + 0 ≤ _), (by decide : 6 + 0 ≤ _)⟩)
    dsimp only [Pt.U, Pt.locs, Pt.cells, Pt.slots] at X57 l57 y57 z57 st57 hQ57
    subst l57 y57 z57
    obtain ⟨rfl, Nq57, eq57⟩ := hQ57
    have N57 := Fr.app N56 Nq57
    refine Go.st st57 ?_
    show Go _ _ _ _ _ _ _ (T57.setTop (mkF m 109 _ [(.long ((own_sel jb p0 p1 p2 p3).toInt64)), (.long ((0 : Int64) + ((own_sel ja p0 p1 p2 p3).toInt64)))]))
    refine Go.st (t' := T57.setTop (mkF m 136 #[.val (.int p0), .val (.int p1), .val (.int p2), .val (.int p3), .val (.int p4), .val (.ref b1), .val (.int 2), .val (.int ja), .val (.int jb), .val (.int jc), .val (.ref b48), .val (.long (((0 : Int64) + ((own_sel ja p0 p1 p2 p3).toInt64)) + ((own_sel jb p0 p1 p2 p3).toInt64))), .second, .unset, .unset] [(.ref b1), (.ref b48)])) (fun target kt => ?_) ?_
    · refine XS.ladd X57.here hx rfl (hb hby at_109) rfl ?_
      show Steps p.tables e below (T57.setTop (mkF m 110 _ [(.long (((0 : Int64) + ((own_sel ja p0 p1 p2 p3).toInt64)) + ((own_sel jb p0 p1 p2 p3).toInt64)))])) target
      refine XS.lstore X57.here hx rfl (hb hby at_110) rfl (l' := #[.val (.int p0), .val (.int p1), .val (.int p2), .val (.int p3), .val (.int p4), .val (.ref b1), .val (.int 2), .val (.int ja), .val (.int jb), .val (.int jc), .val (.ref b48), .val (.long (((0 : Int64) + ((own_sel ja p0 p1 p2 p3).toInt64)) + ((own_sel jb p0 p1 p2 p3).toInt64))), .second, .unset, .unset]) rfl ?_
      show Steps p.tables e below (T57.setTop (mkF m 112 _ [])) target
      refine XS.iload X57.here hx rfl (hb hby at_112) rfl ?_
      show Steps p.tables e below (T57.setTop (mkF m 114 _ [(.int 2)])) target
      refine XS.iconst X57.here hx rfl (hb hby at_114) ?_
      show Steps p.tables e below (T57.setTop (mkF m 115 _ [(.int 3), (.int 2)])) target
      refine XS.icmpYes X57.here hx rfl (pc0 := 115) (pc' := 132) rfl (hb hby at_115) rfl (tlt (by decide : (2 : Int32) < (3 : Int32))).1 (by decide) (by decide) ?_
      show Steps p.tables e below (T57.setTop (mkF m 132 _ [])) target
      refine XS.aload X57.here hx rfl (hb hby at_132) rfl rfl ?_
      show Steps p.tables e below (T57.setTop (mkF m 134 _ [(.ref b48)])) target
      refine XS.aload X57.here hx rfl (hb hby at_134) rfl rfl ?_
      exact kt
    have c58 := V21.keep Kq47 nin0
    obtain ⟨_, _, ⟨T59, L59, k59, n59⟩, -, X59, ⟨Lc59, hQ59, l59, y59, z59⟩, st59⟩ := Jvm.LawKit.callS X57 hx (y := (⟨"com/example/count_calibrated_demand/countcalibrateddemand/CountCorrection", "correction", "([I[D)D"⟩ : MethodName)) hown (mvT hZ (hw _ tw6)) (mvT hZ (hw _ tw7)) (mvT hZ (hw _ tw8)) (mvT hZ (hw _ tw9)) (by decide) (backOf (W := 0) (rm2_2 l Z a0 hw [] b48 b1 k49 k1 ja jb p0 p1 p2 p3 T47.heap n0 (Nat.le_trans Z0 K54.1) O55  q51 c58 hb_ja hb_jb) hZ (hw _ tw9) (hw _ tw8) (by decide) (by decide)) (g := (mkF m 136 #[.val (.int p0), .val (.int p1), .val (.int p2), .val (.int p3), .val (.int p4), .val (.ref b1), .val (.int 2), .val (.int ja), .val (.int jb), .val (.int jc), .val (.ref b48), .val (.long (((0 : Int64) + ((own_sel ja p0 p1 p2 p3).toInt64)) + ((own_sel jb p0 p1 p2 p3).toInt64))), .second, .unset, .unset] [(.ref b1), (.ref b48)])) rfl (by rw [hml]; rfl) (argsL := [(.ref b48), (.ref b1)]) (rest := []) (lenOf pd1 rfl) rfl (by show 2 * 0 + _ ≤ _; exact Nat.le_of_eq rfl) (hb hby at_136) (fun _ _ => ⟨rfl, eq57, (by decide : 2 + 0 ≤ _), (by decide : 6 + 0 ≤ _)⟩)
    dsimp only [Pt.U, Pt.locs, Pt.cells, Pt.slots] at X59 l59 y59 z59 st59 hQ59
    subst l59 y59 z59
    obtain ⟨rfl, Nq59, eq59⟩ := hQ59
    have N59 := Fr.app N57 Nq59
    refine Go.st st59 ?_
    show Go _ _ _ _ _ _ _ (T59.setTop (mkF m 139 _ [(.double (FP.l2d (((0 : Int64) + ((own_sel ja p0 p1 p2 p3).toInt64)) + ((own_sel jb p0 p1 p2 p3).toInt64))))]))
    refine Go.st (t' := T59.setTop (mkF m 155 #[.val (.int p0), .val (.int p1), .val (.int p2), .val (.int p3), .val (.int p4), .val (.ref b1), .val (.int 2), .val (.int ja), .val (.int jb), .val (.int jc), .val (.ref b48), .val (.long (((0 : Int64) + ((own_sel ja p0 p1 p2 p3).toInt64)) + ((own_sel jb p0 p1 p2 p3).toInt64))), .second, .val (.double (FP.l2d (((0 : Int64) + ((own_sel ja p0 p1 p2 p3).toInt64)) + ((own_sel jb p0 p1 p2 p3).toInt64)))), .second] [(.int 1)])) (fun target kt => ?_) ?_
    · refine XS.dstore X59.here hx rfl (hb hby at_139) rfl (l' := #[.val (.int p0), .val (.int p1), .val (.int p2), .val (.int p3), .val (.int p4), .val (.ref b1), .val (.int 2), .val (.int ja), .val (.int jb), .val (.int jc), .val (.ref b48), .val (.long (((0 : Int64) + ((own_sel ja p0 p1 p2 p3).toInt64)) + ((own_sel jb p0 p1 p2 p3).toInt64))), .second, .val (.double (FP.l2d (((0 : Int64) + ((own_sel ja p0 p1 p2 p3).toInt64)) + ((own_sel jb p0 p1 p2 p3).toInt64)))), .second]) rfl ?_
      show Steps p.tables e below (T59.setTop (mkF m 141 _ [])) target
      refine XS.dload X59.here hx rfl (hb hby at_141) rfl ?_
      show Steps p.tables e below (T59.setTop (mkF m 143 _ [(.double (FP.l2d (((0 : Int64) + ((own_sel ja p0 p1 p2 p3).toInt64)) + ((own_sel jb p0 p1 p2 p3).toInt64))))])) target
      refine XS.lload X59.here hx rfl (hb hby at_143) rfl ?_
      show Steps p.tables e below (T59.setTop (mkF m 145 _ [(.long (((0 : Int64) + ((own_sel ja p0 p1 p2 p3).toInt64)) + ((own_sel jb p0 p1 p2 p3).toInt64))), (.double (FP.l2d (((0 : Int64) + ((own_sel ja p0 p1 p2 p3).toInt64)) + ((own_sel jb p0 p1 p2 p3).toInt64))))])) target
      refine XS.l2dS X59.here hx rfl (hb hby at_145) rfl rfl ?_
      show Steps p.tables e below (T59.setTop (mkF m 146 _ [(.double (FP.l2d (((0 : Int64) + ((own_sel ja p0 p1 p2 p3).toInt64)) + ((own_sel jb p0 p1 p2 p3).toInt64)))), (.double (FP.l2d (((0 : Int64) + ((own_sel ja p0 p1 p2 p3).toInt64)) + ((own_sel jb p0 p1 p2 p3).toInt64))))])) target
      refine XS.dcmpS X59.here hx rfl (hb hby at_146) rfl (dcmpV_self (nn_w rfl) _) ?_
      show Steps p.tables e below (T59.setTop (mkF m 147 _ [(.int 0)])) target
      refine XS.ifNo X59.here hx rfl (hb hby at_147) rfl ((if0 _ _).trans (teq (by decide : (0 : Int32) = (0 : Int32))).2) ?_
      show Steps p.tables e below (T59.setTop (mkF m 150 _ [])) target
      refine XS.iconst X59.here hx rfl (hb hby at_150) ?_
      show Steps p.tables e below (T59.setTop (mkF m 151 _ [(.int 1)])) target
      refine XS.goto X59.here hx rfl (pc0 := 151) (pc' := 155) rfl (hb hby at_151) (by decide) (by decide) ?_
      exact kt
    refine Go.ret X59 (v := some (.int 1)) (fun h => by rw [hret] at h; cases h) hlk (fun fs hr => retN X59 hx (t := .boolean) hret (by simp) (hb hby at_155) hr) ?_ (by decide) (by decide)
    show Q0 Z p0 p1 p2 p3 p4 h0 n0 _ T59.heap _
    rw [eq59]
    exact ⟨rfl, N59, K54⟩
  · have hk_ := hk
    rw [hk]
    show Go _ _ _ _ _ _ _ (T20.setTop (mkF m 56 _ []))
    refine Go.st (t' := T20.setTop (mkF m 64 #[.val (.int p0), .val (.int p1), .val (.int p2), .val (.int p3), .val (.int p4), .val (.ref b1), .val (.int 3), .val (.int ja), .val (.int jb), .val (.int jc), .unset, .unset, .unset, .unset, .unset] [(.int jc), (.int jb), (.int ja), (.int 3)])) (fun target kt => ?_) ?_
    · refine XS.iload X20.here hx rfl (hb hby at_56) rfl ?_
      show Steps p.tables e below (T20.setTop (mkF m 58 _ [(.int 3)])) target
      refine XS.iload X20.here hx rfl (hb hby at_58) rfl ?_
      show Steps p.tables e below (T20.setTop (mkF m 60 _ [(.int ja), (.int 3)])) target
      refine XS.iload X20.here hx rfl (hb hby at_60) rfl ?_
      show Steps p.tables e below (T20.setTop (mkF m 62 _ [(.int jb), (.int ja), (.int 3)])) target
      refine XS.iload X20.here hx rfl (hb hby at_62) rfl ?_
      exact kt
    obtain ⟨_, _, ⟨T60, L60, k60, n60⟩, -, X60, ⟨Lc60, hQ60, l60, y60, z60⟩, st60⟩ := Jvm.LawKit.callS X20 hx (y := (⟨"com/example/count_calibrated_demand/countcalibrateddemand/CountCorrectionCorrectionPinLaw", "metOf", "(IIII)[I"⟩ : MethodName)) hown (mvT hZ (hw _ tw1)) (mvT hZ (hw _ tw2)) (mvT hZ (hw _ tw3)) (mvT hZ (hw _ tw4)) (by decide) (backOf (W := 0) (rm1_3 l Z a0 hw [] ja jb jc h20 n0 (Nat.le_trans Z0 K22.1) O23  ) hZ (hw _ tw4) (hw _ tw3) (by decide) (by decide)) (g := (mkF m 64 #[.val (.int p0), .val (.int p1), .val (.int p2), .val (.int p3), .val (.int p4), .val (.ref b1), .val (.int 3), .val (.int ja), .val (.int jb), .val (.int jc), .unset, .unset, .unset, .unset, .unset] [(.int jc), (.int jb), (.int ja), (.int 3)])) rfl (by rw [hml]; rfl) (argsL := [(.int 3), (.int ja), (.int jb), (.int jc)]) (rest := []) (lenOf pd0 rfl) rfl (by show 2 * 0 + _ ≤ _; exact Nat.le_of_eq rfl) (hb hby at_64) (fun _ _ => ⟨rfl, e20, (by decide : 1 + 1 ≤ _), (by decide : 4 + 3 ≤ _)⟩)
    dsimp only [Pt.U, Pt.locs, Pt.cells, Pt.slots] at X60 l60 y60 z60 st60 hQ60
    subst l60 y60 z60
    obtain ⟨b61, k62, rfl, Nq60, Kq60, q63, q64⟩ := hQ60
    have N60 := Fr.app N20 Nq60
    have sz65 : h0.size ≤ b61 := Nat.le_trans K22.1 q63
    have g66 : n0 ≤ b61 := Nat.le_trans Z0 sz65
    have K67 := K22.trans Kq60 all0
    have O68 := O23.keep Kq60 all0
    refine Go.st st60 ?_
    show Go _ _ _ _ _ _ _ (T60.setTop (mkF m 67 _ [(.ref b61)]))
    refine Go.st (t' := T60.setTop (mkF m 86 #[.val (.int p0), .val (.int p1), .val (.int p2), .val (.int p3), .val (.int p4), .val (.ref b1), .val (.int 3), .val (.int ja), .val (.int jb), .val (.int jc), .val (.ref b61), .val (.long (0 : Int64)), .second, .unset, .unset] [(.int p3), (.int p2), (.int p1), (.int p0), (.int ja), (.long (0 : Int64))])) (fun target kt => ?_) ?_
    · refine XS.astore X60.here hx rfl (hb hby at_67) rfl rfl (l' := #[.val (.int p0), .val (.int p1), .val (.int p2), .val (.int p3), .val (.int p4), .val (.ref b1), .val (.int 3), .val (.int ja), .val (.int jb), .val (.int jc), .val (.ref b61), .unset, .unset, .unset, .unset]) rfl ?_
      show Steps p.tables e below (T60.setTop (mkF m 69 _ [])) target
      refine XS.lconst X60.here hx rfl (hb hby at_69) ?_
      show Steps p.tables e below (T60.setTop (mkF m 70 _ [(.long (0 : Int64))])) target
      refine XS.lstore X60.here hx rfl (hb hby at_70) rfl (l' := #[.val (.int p0), .val (.int p1), .val (.int p2), .val (.int p3), .val (.int p4), .val (.ref b1), .val (.int 3), .val (.int ja), .val (.int jb), .val (.int jc), .val (.ref b61), .val (.long (0 : Int64)), .second, .unset, .unset]) rfl ?_
      show Steps p.tables e below (T60.setTop (mkF m 72 _ [])) target
      refine XS.iload X60.here hx rfl (hb hby at_72) rfl ?_
      show Steps p.tables e below (T60.setTop (mkF m 74 _ [(.int 3)])) target
      refine XS.iconst X60.here hx rfl (hb hby at_74) ?_
      show Steps p.tables e below (T60.setTop (mkF m 75 _ [(.int 1), (.int 3)])) target
      refine XS.icmpNo X60.here hx rfl (hb hby at_75) rfl (flt (by decide : ¬ ((3 : Int32) < (1 : Int32)))).1 ?_
      show Steps p.tables e below (T60.setTop (mkF m 78 _ [])) target
      refine XS.lload X60.here hx rfl (hb hby at_78) rfl ?_
      show Steps p.tables e below (T60.setTop (mkF m 80 _ [(.long (0 : Int64))])) target
      refine XS.iload X60.here hx rfl (hb hby at_80) rfl ?_
      show Steps p.tables e below (T60.setTop (mkF m 82 _ [(.int ja), (.long (0 : Int64))])) target
      refine XS.iloadN X60.here hx rfl (hb hby at_82) rfl ?_
      show Steps p.tables e below (T60.setTop (mkF m 83 _ [(.int p0), (.int ja), (.long (0 : Int64))])) target
      refine XS.iloadN X60.here hx rfl (hb hby at_83) rfl ?_
      show Steps p.tables e below (T60.setTop (mkF m 84 _ [(.int p1), (.int p0), (.int ja), (.long (0 : Int64))])) target
      refine XS.iloadN X60.here hx rfl (hb hby at_84) rfl ?_
      show Steps p.tables e below (T60.setTop (mkF m 85 _ [(.int p2), (.int p1), (.int p0), (.int ja), (.long (0 : Int64))])) target
      refine XS.iloadN X60.here hx rfl (hb hby at_85) rfl ?_
      exact kt
    obtain ⟨_, _, ⟨T69, L69, k69, n69⟩, -, X69, ⟨Lc69, hQ69, l69, y69, z69⟩, st69⟩ := Jvm.LawKit.callS X60 hx (y := (⟨"com/example/count_calibrated_demand/countcalibrateddemand/CountCorrectionCorrectionPinLaw", "pick", "(IIIII)J"⟩ : MethodName)) hown (mvT hZ (hw _ tw10)) (mvT hZ (hw _ tw11)) (mvT hZ (hw _ tw3)) (mvT hZ (hw _ tw12)) (by decide) (backOf (W := 2) (rm3 l Z a0 hw [] ja p0 p1 p2 p3 T60.heap n0 (Nat.le_trans Z0 K67.1) O68  ) hZ (hw _ tw12) (hw _ tw3) (by decide) (by decide)) (g := (mkF m 86 #[.val (.int p0), .val (.int p1), .val (.int p2), .val (.int p3), .val (.int p4), .val (.ref b1), .val (.int 3), .val (.int ja), .val (.int jb), .val (.int jc), .val (.ref b61), .val (.long (0 : Int64)), .second, .unset, .unset] [(.int p3), (.int p2), (.int p1), (.int p0), (.int ja), (.long (0 : Int64))])) rfl (by rw [hml]; rfl) (argsL := [(.int ja), (.int p0), (.int p1), (.int p2), (.int p3)]) (rest := [(.long (0 : Int64))]) (lenOf pd2 rfl) rfl (by show 2 * 0 + _ ≤ _; exact Nat.le_of_eq rfl) (hb hby at_86) (fun _ _ => ⟨rfl, rfl, (by decide : 2 + 0 ≤ _), (by decide : 7 + 0 ≤ _)⟩)
    dsimp only [Pt.U, Pt.locs, Pt.cells, Pt.slots] at X69 l69 y69 z69 st69 hQ69
    subst l69 y69 z69
    obtain ⟨rfl, Nq69, eq69⟩ := hQ69
    have N69 := Fr.app N60 Nq69
    refine Go.st st69 ?_
    show Go _ _ _ _ _ _ _ (T69.setTop (mkF m 89 _ [(.long ((own_sel ja p0 p1 p2 p3).toInt64)), (.long (0 : Int64))]))
    refine Go.st (t' := T69.setTop (mkF m 106 #[.val (.int p0), .val (.int p1), .val (.int p2), .val (.int p3), .val (.int p4), .val (.ref b1), .val (.int 3), .val (.int ja), .val (.int jb), .val (.int jc), .val (.ref b61), .val (.long ((0 : Int64) + ((own_sel ja p0 p1 p2 p3).toInt64))), .second, .unset, .unset] [(.int p3), (.int p2), (.int p1), (.int p0), (.int jb), (.long ((0 : Int64) + ((own_sel ja p0 p1 p2 p3).toInt64)))])) (fun target kt => ?_) ?_
    · refine XS.ladd X69.here hx rfl (hb hby at_89) rfl ?_
      show Steps p.tables e below (T69.setTop (mkF m 90 _ [(.long ((0 : Int64) + ((own_sel ja p0 p1 p2 p3).toInt64)))])) target
      refine XS.lstore X69.here hx rfl (hb hby at_90) rfl (l' := #[.val (.int p0), .val (.int p1), .val (.int p2), .val (.int p3), .val (.int p4), .val (.ref b1), .val (.int 3), .val (.int ja), .val (.int jb), .val (.int jc), .val (.ref b61), .val (.long ((0 : Int64) + ((own_sel ja p0 p1 p2 p3).toInt64))), .second, .unset, .unset]) rfl ?_
      show Steps p.tables e below (T69.setTop (mkF m 92 _ [])) target
      refine XS.iload X69.here hx rfl (hb hby at_92) rfl ?_
      show Steps p.tables e below (T69.setTop (mkF m 94 _ [(.int 3)])) target
      refine XS.iconst X69.here hx rfl (hb hby at_94) ?_
      show Steps p.tables e below (T69.setTop (mkF m 95 _ [(.int 2), (.int 3)])) target
      refine XS.icmpNo X69.here hx rfl (hb hby at_95) rfl (flt (by decide : ¬ ((3 : Int32) < (2 : Int32)))).1 ?_
      show Steps p.tables e below (T69.setTop (mkF m 98 _ [])) target
      refine XS.lload X69.here hx rfl (hb hby at_98) rfl ?_
      show Steps p.tables e below (T69.setTop (mkF m 100 _ [(.long ((0 : Int64) + ((own_sel ja p0 p1 p2 p3).toInt64)))])) target
      refine XS.iload X69.here hx rfl (hb hby at_100) rfl ?_
      show Steps p.tables e below (T69.setTop (mkF m 102 _ [(.int jb), (.long ((0 : Int64) + ((own_sel ja p0 p1 p2 p3).toInt64)))])) target
      refine XS.iloadN X69.here hx rfl (hb hby at_102) rfl ?_
      show Steps p.tables e below (T69.setTop (mkF m 103 _ [(.int p0), (.int jb), (.long ((0 : Int64) + ((own_sel ja p0 p1 p2 p3).toInt64)))])) target
      refine XS.iloadN X69.here hx rfl (hb hby at_103) rfl ?_
      show Steps p.tables e below (T69.setTop (mkF m 104 _ [(.int p1), (.int p0), (.int jb), (.long ((0 : Int64) + ((own_sel ja p0 p1 p2 p3).toInt64)))])) target
      refine XS.iloadN X69.here hx rfl (hb hby at_104) rfl ?_
      show Steps p.tables e below (T69.setTop (mkF m 105 _ [(.int p2), (.int p1), (.int p0), (.int jb), (.long ((0 : Int64) + ((own_sel ja p0 p1 p2 p3).toInt64)))])) target
      refine XS.iloadN X69.here hx rfl (hb hby at_105) rfl ?_
      exact kt
    obtain ⟨_, _, ⟨T70, L70, k70, n70⟩, -, X70, ⟨Lc70, hQ70, l70, y70, z70⟩, st70⟩ := Jvm.LawKit.callS X69 hx (y := (⟨"com/example/count_calibrated_demand/countcalibrateddemand/CountCorrectionCorrectionPinLaw", "pick", "(IIIII)J"⟩ : MethodName)) hown (mvT hZ (hw _ tw10)) (mvT hZ (hw _ tw11)) (mvT hZ (hw _ tw3)) (mvT hZ (hw _ tw12)) (by decide) (backOf (W := 2) (rm3 l Z a0 hw [] jb p0 p1 p2 p3 T60.heap n0 (Nat.le_trans Z0 K67.1) O68  ) hZ (hw _ tw12) (hw _ tw3) (by decide) (by decide)) (g := (mkF m 106 #[.val (.int p0), .val (.int p1), .val (.int p2), .val (.int p3), .val (.int p4), .val (.ref b1), .val (.int 3), .val (.int ja), .val (.int jb), .val (.int jc), .val (.ref b61), .val (.long ((0 : Int64) + ((own_sel ja p0 p1 p2 p3).toInt64))), .second, .unset, .unset] [(.int p3), (.int p2), (.int p1), (.int p0), (.int jb), (.long ((0 : Int64) + ((own_sel ja p0 p1 p2 p3).toInt64)))])) rfl (by rw [hml]; rfl) (argsL := [(.int jb), (.int p0), (.int p1), (.int p2), (.int p3)]) (rest := [(.long ((0 : Int64) + ((own_sel ja p0 p1 p2 p3).toInt64)))]) (lenOf pd2 rfl) rfl (by show 2 * 0 + _ ≤ _; exact Nat.le_of_eq rfl) (hb hby at_106) (fun _ _ => ⟨rfl, eq69, (by decide : 2 + 0 ≤ _), (by decide : 7 + 0 ≤ _)⟩)
    dsimp only [Pt.U, Pt.locs, Pt.cells, Pt.slots] at X70 l70 y70 z70 st70 hQ70
    subst l70 y70 z70
    obtain ⟨rfl, Nq70, eq70⟩ := hQ70
    have N70 := Fr.app N69 Nq70
    refine Go.st st70 ?_
    show Go _ _ _ _ _ _ _ (T70.setTop (mkF m 109 _ [(.long ((own_sel jb p0 p1 p2 p3).toInt64)), (.long ((0 : Int64) + ((own_sel ja p0 p1 p2 p3).toInt64)))]))
    refine Go.st (t' := T70.setTop (mkF m 126 #[.val (.int p0), .val (.int p1), .val (.int p2), .val (.int p3), .val (.int p4), .val (.ref b1), .val (.int 3), .val (.int ja), .val (.int jb), .val (.int jc), .val (.ref b61), .val (.long (((0 : Int64) + ((own_sel ja p0 p1 p2 p3).toInt64)) + ((own_sel jb p0 p1 p2 p3).toInt64))), .second, .unset, .unset] [(.int p3), (.int p2), (.int p1), (.int p0), (.int jc), (.long (((0 : Int64) + ((own_sel ja p0 p1 p2 p3).toInt64)) + ((own_sel jb p0 p1 p2 p3).toInt64)))])) (fun target kt => ?_) ?_
    · refine XS.ladd X70.here hx rfl (hb hby at_109) rfl ?_
      show Steps p.tables e below (T70.setTop (mkF m 110 _ [(.long (((0 : Int64) + ((own_sel ja p0 p1 p2 p3).toInt64)) + ((own_sel jb p0 p1 p2 p3).toInt64)))])) target
      refine XS.lstore X70.here hx rfl (hb hby at_110) rfl (l' := #[.val (.int p0), .val (.int p1), .val (.int p2), .val (.int p3), .val (.int p4), .val (.ref b1), .val (.int 3), .val (.int ja), .val (.int jb), .val (.int jc), .val (.ref b61), .val (.long (((0 : Int64) + ((own_sel ja p0 p1 p2 p3).toInt64)) + ((own_sel jb p0 p1 p2 p3).toInt64))), .second, .unset, .unset]) rfl ?_
      show Steps p.tables e below (T70.setTop (mkF m 112 _ [])) target
      refine XS.iload X70.here hx rfl (hb hby at_112) rfl ?_
      show Steps p.tables e below (T70.setTop (mkF m 114 _ [(.int 3)])) target
      refine XS.iconst X70.here hx rfl (hb hby at_114) ?_
      show Steps p.tables e below (T70.setTop (mkF m 115 _ [(.int 3), (.int 3)])) target
      refine XS.icmpNo X70.here hx rfl (hb hby at_115) rfl (flt (by decide : ¬ ((3 : Int32) < (3 : Int32)))).1 ?_
      show Steps p.tables e below (T70.setTop (mkF m 118 _ [])) target
      refine XS.lload X70.here hx rfl (hb hby at_118) rfl ?_
      show Steps p.tables e below (T70.setTop (mkF m 120 _ [(.long (((0 : Int64) + ((own_sel ja p0 p1 p2 p3).toInt64)) + ((own_sel jb p0 p1 p2 p3).toInt64)))])) target
      refine XS.iload X70.here hx rfl (hb hby at_120) rfl ?_
      show Steps p.tables e below (T70.setTop (mkF m 122 _ [(.int jc), (.long (((0 : Int64) + ((own_sel ja p0 p1 p2 p3).toInt64)) + ((own_sel jb p0 p1 p2 p3).toInt64)))])) target
      refine XS.iloadN X70.here hx rfl (hb hby at_122) rfl ?_
      show Steps p.tables e below (T70.setTop (mkF m 123 _ [(.int p0), (.int jc), (.long (((0 : Int64) + ((own_sel ja p0 p1 p2 p3).toInt64)) + ((own_sel jb p0 p1 p2 p3).toInt64)))])) target
      refine XS.iloadN X70.here hx rfl (hb hby at_123) rfl ?_
      show Steps p.tables e below (T70.setTop (mkF m 124 _ [(.int p1), (.int p0), (.int jc), (.long (((0 : Int64) + ((own_sel ja p0 p1 p2 p3).toInt64)) + ((own_sel jb p0 p1 p2 p3).toInt64)))])) target
      refine XS.iloadN X70.here hx rfl (hb hby at_124) rfl ?_
      show Steps p.tables e below (T70.setTop (mkF m 125 _ [(.int p2), (.int p1), (.int p0), (.int jc), (.long (((0 : Int64) + ((own_sel ja p0 p1 p2 p3).toInt64)) + ((own_sel jb p0 p1 p2 p3).toInt64)))])) target
      refine XS.iloadN X70.here hx rfl (hb hby at_125) rfl ?_
      exact kt
    obtain ⟨_, _, ⟨T71, L71, k71, n71⟩, -, X71, ⟨Lc71, hQ71, l71, y71, z71⟩, st71⟩ := Jvm.LawKit.callS X70 hx (y := (⟨"com/example/count_calibrated_demand/countcalibrateddemand/CountCorrectionCorrectionPinLaw", "pick", "(IIIII)J"⟩ : MethodName)) hown (mvT hZ (hw _ tw10)) (mvT hZ (hw _ tw11)) (mvT hZ (hw _ tw3)) (mvT hZ (hw _ tw12)) (by decide) (backOf (W := 2) (rm3 l Z a0 hw [] jc p0 p1 p2 p3 T60.heap n0 (Nat.le_trans Z0 K67.1) O68  ) hZ (hw _ tw12) (hw _ tw3) (by decide) (by decide)) (g := (mkF m 126 #[.val (.int p0), .val (.int p1), .val (.int p2), .val (.int p3), .val (.int p4), .val (.ref b1), .val (.int 3), .val (.int ja), .val (.int jb), .val (.int jc), .val (.ref b61), .val (.long (((0 : Int64) + ((own_sel ja p0 p1 p2 p3).toInt64)) + ((own_sel jb p0 p1 p2 p3).toInt64))), .second, .unset, .unset] [(.int p3), (.int p2), (.int p1), (.int p0), (.int jc), (.long (((0 : Int64) + ((own_sel ja p0 p1 p2 p3).toInt64)) + ((own_sel jb p0 p1 p2 p3).toInt64)))])) rfl (by rw [hml]; rfl) (argsL := [(.int jc), (.int p0), (.int p1), (.int p2), (.int p3)]) (rest := [(.long (((0 : Int64) + ((own_sel ja p0 p1 p2 p3).toInt64)) + ((own_sel jb p0 p1 p2 p3).toInt64)))]) (lenOf pd2 rfl) rfl (by show 2 * 0 + _ ≤ _; exact Nat.le_of_eq rfl) (hb hby at_126) (fun _ _ => ⟨rfl, eq70, (by decide : 2 + 0 ≤ _), (by decide : 7 + 0 ≤ _)⟩)
    dsimp only [Pt.U, Pt.locs, Pt.cells, Pt.slots] at X71 l71 y71 z71 st71 hQ71
    subst l71 y71 z71
    obtain ⟨rfl, Nq71, eq71⟩ := hQ71
    have N71 := Fr.app N70 Nq71
    refine Go.st st71 ?_
    show Go _ _ _ _ _ _ _ (T71.setTop (mkF m 129 _ [(.long ((own_sel jc p0 p1 p2 p3).toInt64)), (.long (((0 : Int64) + ((own_sel ja p0 p1 p2 p3).toInt64)) + ((own_sel jb p0 p1 p2 p3).toInt64)))]))
    refine Go.st (t' := T71.setTop (mkF m 136 #[.val (.int p0), .val (.int p1), .val (.int p2), .val (.int p3), .val (.int p4), .val (.ref b1), .val (.int 3), .val (.int ja), .val (.int jb), .val (.int jc), .val (.ref b61), .val (.long ((((0 : Int64) + ((own_sel ja p0 p1 p2 p3).toInt64)) + ((own_sel jb p0 p1 p2 p3).toInt64)) + ((own_sel jc p0 p1 p2 p3).toInt64))), .second, .unset, .unset] [(.ref b1), (.ref b61)])) (fun target kt => ?_) ?_
    · refine XS.ladd X71.here hx rfl (hb hby at_129) rfl ?_
      show Steps p.tables e below (T71.setTop (mkF m 130 _ [(.long ((((0 : Int64) + ((own_sel ja p0 p1 p2 p3).toInt64)) + ((own_sel jb p0 p1 p2 p3).toInt64)) + ((own_sel jc p0 p1 p2 p3).toInt64)))])) target
      refine XS.lstore X71.here hx rfl (hb hby at_130) rfl (l' := #[.val (.int p0), .val (.int p1), .val (.int p2), .val (.int p3), .val (.int p4), .val (.ref b1), .val (.int 3), .val (.int ja), .val (.int jb), .val (.int jc), .val (.ref b61), .val (.long ((((0 : Int64) + ((own_sel ja p0 p1 p2 p3).toInt64)) + ((own_sel jb p0 p1 p2 p3).toInt64)) + ((own_sel jc p0 p1 p2 p3).toInt64))), .second, .unset, .unset]) rfl ?_
      show Steps p.tables e below (T71.setTop (mkF m 132 _ [])) target
      refine XS.aload X71.here hx rfl (hb hby at_132) rfl rfl ?_
      show Steps p.tables e below (T71.setTop (mkF m 134 _ [(.ref b61)])) target
      refine XS.aload X71.here hx rfl (hb hby at_134) rfl rfl ?_
      exact kt
    have c72 := V21.keep Kq60 nin0
    obtain ⟨_, _, ⟨T73, L73, k73, n73⟩, -, X73, ⟨Lc73, hQ73, l73, y73, z73⟩, st73⟩ := Jvm.LawKit.callS X71 hx (y := (⟨"com/example/count_calibrated_demand/countcalibrateddemand/CountCorrection", "correction", "([I[D)D"⟩ : MethodName)) hown (mvT hZ (hw _ tw6)) (mvT hZ (hw _ tw7)) (mvT hZ (hw _ tw8)) (mvT hZ (hw _ tw9)) (by decide) (backOf (W := 0) (rm2_3 l Z a0 hw [] b61 b1 k62 k1 ja jb jc p0 p1 p2 p3 T60.heap n0 (Nat.le_trans Z0 K67.1) O68  q64 c72 hb_ja hb_jb hb_jc) hZ (hw _ tw9) (hw _ tw8) (by decide) (by decide)) (g := (mkF m 136 #[.val (.int p0), .val (.int p1), .val (.int p2), .val (.int p3), .val (.int p4), .val (.ref b1), .val (.int 3), .val (.int ja), .val (.int jb), .val (.int jc), .val (.ref b61), .val (.long ((((0 : Int64) + ((own_sel ja p0 p1 p2 p3).toInt64)) + ((own_sel jb p0 p1 p2 p3).toInt64)) + ((own_sel jc p0 p1 p2 p3).toInt64))), .second, .unset, .unset] [(.ref b1), (.ref b61)])) rfl (by rw [hml]; rfl) (argsL := [(.ref b61), (.ref b1)]) (rest := []) (lenOf pd1 rfl) rfl (by show 2 * 0 + _ ≤ _; exact Nat.le_of_eq rfl) (hb hby at_136) (fun _ _ => ⟨rfl, eq71, (by decide : 2 + 0 ≤ _), (by decide : 7 + 0 ≤ _)⟩)
    dsimp only [Pt.U, Pt.locs, Pt.cells, Pt.slots] at X73 l73 y73 z73 st73 hQ73
    subst l73 y73 z73
    obtain ⟨rfl, Nq73, eq73⟩ := hQ73
    have N73 := Fr.app N71 Nq73
    refine Go.st st73 ?_
    show Go _ _ _ _ _ _ _ (T73.setTop (mkF m 139 _ [(.double (FP.l2d ((((0 : Int64) + ((own_sel ja p0 p1 p2 p3).toInt64)) + ((own_sel jb p0 p1 p2 p3).toInt64)) + ((own_sel jc p0 p1 p2 p3).toInt64))))]))
    refine Go.st (t' := T73.setTop (mkF m 155 #[.val (.int p0), .val (.int p1), .val (.int p2), .val (.int p3), .val (.int p4), .val (.ref b1), .val (.int 3), .val (.int ja), .val (.int jb), .val (.int jc), .val (.ref b61), .val (.long ((((0 : Int64) + ((own_sel ja p0 p1 p2 p3).toInt64)) + ((own_sel jb p0 p1 p2 p3).toInt64)) + ((own_sel jc p0 p1 p2 p3).toInt64))), .second, .val (.double (FP.l2d ((((0 : Int64) + ((own_sel ja p0 p1 p2 p3).toInt64)) + ((own_sel jb p0 p1 p2 p3).toInt64)) + ((own_sel jc p0 p1 p2 p3).toInt64)))), .second] [(.int 1)])) (fun target kt => ?_) ?_
    · refine XS.dstore X73.here hx rfl (hb hby at_139) rfl (l' := #[.val (.int p0), .val (.int p1), .val (.int p2), .val (.int p3), .val (.int p4), .val (.ref b1), .val (.int 3), .val (.int ja), .val (.int jb), .val (.int jc), .val (.ref b61), .val (.long ((((0 : Int64) + ((own_sel ja p0 p1 p2 p3).toInt64)) + ((own_sel jb p0 p1 p2 p3).toInt64)) + ((own_sel jc p0 p1 p2 p3).toInt64))), .second, .val (.double (FP.l2d ((((0 : Int64) + ((own_sel ja p0 p1 p2 p3).toInt64)) + ((own_sel jb p0 p1 p2 p3).toInt64)) + ((own_sel jc p0 p1 p2 p3).toInt64)))), .second]) rfl ?_
      show Steps p.tables e below (T73.setTop (mkF m 141 _ [])) target
      refine XS.dload X73.here hx rfl (hb hby at_141) rfl ?_
      show Steps p.tables e below (T73.setTop (mkF m 143 _ [(.double (FP.l2d ((((0 : Int64) + ((own_sel ja p0 p1 p2 p3).toInt64)) + ((own_sel jb p0 p1 p2 p3).toInt64)) + ((own_sel jc p0 p1 p2 p3).toInt64))))])) target
      refine XS.lload X73.here hx rfl (hb hby at_143) rfl ?_
      show Steps p.tables e below (T73.setTop (mkF m 145 _ [(.long ((((0 : Int64) + ((own_sel ja p0 p1 p2 p3).toInt64)) + ((own_sel jb p0 p1 p2 p3).toInt64)) + ((own_sel jc p0 p1 p2 p3).toInt64))), (.double (FP.l2d ((((0 : Int64) + ((own_sel ja p0 p1 p2 p3).toInt64)) + ((own_sel jb p0 p1 p2 p3).toInt64)) + ((own_sel jc p0 p1 p2 p3).toInt64))))])) target
      refine XS.l2dS X73.here hx rfl (hb hby at_145) rfl rfl ?_
      show Steps p.tables e below (T73.setTop (mkF m 146 _ [(.double (FP.l2d ((((0 : Int64) + ((own_sel ja p0 p1 p2 p3).toInt64)) + ((own_sel jb p0 p1 p2 p3).toInt64)) + ((own_sel jc p0 p1 p2 p3).toInt64)))), (.double (FP.l2d ((((0 : Int64) + ((own_sel ja p0 p1 p2 p3).toInt64)) + ((own_sel jb p0 p1 p2 p3).toInt64)) + ((own_sel jc p0 p1 p2 p3).toInt64))))])) target
      refine XS.dcmpS X73.here hx rfl (hb hby at_146) rfl (dcmpV_self (nn_w rfl) _) ?_
      show Steps p.tables e below (T73.setTop (mkF m 147 _ [(.int 0)])) target
      refine XS.ifNo X73.here hx rfl (hb hby at_147) rfl ((if0 _ _).trans (teq (by decide : (0 : Int32) = (0 : Int32))).2) ?_
      show Steps p.tables e below (T73.setTop (mkF m 150 _ [])) target
      refine XS.iconst X73.here hx rfl (hb hby at_150) ?_
      show Steps p.tables e below (T73.setTop (mkF m 151 _ [(.int 1)])) target
      refine XS.goto X73.here hx rfl (pc0 := 151) (pc' := 155) rfl (hb hby at_151) (by decide) (by decide) ?_
      exact kt
    refine Go.ret X73 (v := some (.int 1)) (fun h => by rw [hret] at h; cases h) hlk (fun fs hr => retN X73 hx (t := .boolean) hret (by simp) (hb hby at_155) hr) ?_ (by decide) (by decide)
    show Q0 Z p0 p1 p2 p3 p4 h0 n0 _ T73.heap _
    rw [eq73]
    exact ⟨rfl, N73, K67⟩
theorem comes_1 {Post : Tables → Env → Array Value → State → Outcome → State → Prop} (hpost : ∀ tb e args s v u, (limb_1_1.after args s (.returned v) u = true ∧ limb_1_2.after args s (.returned v) u = true ∧ True) → FrameEnd s (.returned v) u (Jvm.fieldLocs frame_1_writes args s ++ Jvm.arrayLocs frame_1_arrays args s ++ Jvm.staticLocs frame_1_statics s) 16 128 → Post tb e args s (.returned v) u) :
    ArmFor flags0 classFile x code maxLocals ret World_1 tables_1 room_1 Calls_1 rest_1 Pre_1 Post := by
  intro l hfl _ _ p e ha hc hk s m args below hf hA hF happ hP
  obtain ⟨hcalls, hrest, hpre⟩ := hP
  obtain ⟨-, -, -, hnamed, -, -, -, hat⟩ := (Spec.applies_iff hf).mp happ
  obtain ⟨hg, hn⟩ := and_e (Cond.before_iff.mp (show (Jvm.Cond.and given_1 narrow_1).before args s = true from hpre))
  obtain ⟨g1, g2⟩ := and_e hg
  obtain ⟨g3, g4⟩ := and_e g2
  obtain ⟨g5, g6⟩ := and_e g4
  obtain ⟨g7, g8⟩ := and_e g6
  obtain ⟨g9, g10⟩ := and_e g8
  obtain ⟨w0_, w1_, w2_, w3_, w4_, rfl⟩ : ∃ w0_ w1_ w2_ w3_ w4_ : Value, args = #[w0_, w1_, w2_, w3_, w4_] := by
    have hs : args.size = 5 := by simpa [Cond.value, given_1] using g1
    obtain ⟨L⟩ := args
    match L, hs with
    | [w0_, w1_, w2_, w3_, w4_], _ => exact ⟨w0_, w1_, w2_, w3_, w4_, rfl⟩
  have hw := fun d (hd : d ∈ tables_1) => atoms_spec (ws := Jvm.Cond.code x code maxLocals ret :: tables_1) hat d (List.mem_cons_of_mem _ hd)
  have hfit : Fit s := fun {y c} hc i hi => by
    obtain ⟨ha, rfl⟩ := Array.getElem?_eq_some_iff.mp hc
    have q := List.all_eq_true.mp ((Array.all_eq_true_iff_forall_mem.mp hF) _ (Array.getElem_mem ha)) i (List.mem_range.mpr hi)
    simpa [Array.getElem?_eq_getElem hi] using q
  obtain ⟨i0, ei0⟩ := is_v g3
  obtain rfl : w0_ = (.int i0) := Option.some.inj ei0
  obtain ⟨i1, ei1⟩ := is_v g5
  obtain rfl : w1_ = (.int i1) := Option.some.inj ei1
  obtain ⟨i2, ei2⟩ := is_v g7
  obtain rfl : w2_ = (.int i2) := Option.some.inj ei2
  obtain ⟨i3, ei3⟩ := is_v g9
  obtain rfl : w3_ = (.int i3) := Option.some.inj ei3
  obtain ⟨i4, ei4⟩ := is_v g10
  obtain rfl : w4_ = (.int i4) := Option.some.inj ei4
  obtain ⟨n, o, h1, h2, h3, _, L, rfl, ⟨rfl, N, -⟩, hq⟩ := rm0 l s _ hw tables_1 i0 i1 i2 i3 i4 s.heap s.heap.size (Nat.le_refl _) (Old.start s)  p e ha hc hk s m _ below hf ((Spec.applies_iff_loose hf).mp happ).1 ⟨rfl, State.Warmed39.refl s, rfl⟩ trivial
  refine ⟨n, _, h1, h2, h3, hpost _ _ _ _ _ _ ⟨Cond.after_iff.mpr rfl, Cond.after_iff.mpr (eq_i res_at (Term.int_eval (1)) rfl), trivial⟩ ⟨hq.1, hq.2.1, (hq.2.2.sift fun y hy => Or.inr (N y hy)).mono (by decide) (by decide)⟩⟩
theorem main_1_1 : Claimed_1_1 := comes_1 fun _ _ _ _ _ _ h hF => ⟨h.1, hF⟩
theorem main_1_2 : Claimed_1_2 := comes_1 fun _ _ _ _ _ _ h hF => ⟨h.2.1, hF⟩
end Jvm.Pilot.@@N@@
/-! witness -/
namespace Jvm.Pilot.@@N@@
open Jvm Jvm.ClassFile Sem Op Lib Jvm.Free Jvm.Stand Jvm.Pilot.@@N@@.Jvm.D
/-! MADE BY PROGRAM (witnessworld.py) out of the Statement's table words and the real class files: 11 classes; the members and pool entries that the words name. The judged class is class 1, her method 1. -/
namespace start1
open Jvm.ClassFile
def u (s : String) : CpInfo := .utf8 (stringToUtf16 s)
/-- a pool by its gaps: so many unusable entries, then the entry; so many at the end -/
def gap : Nat → List CpInfo → List CpInfo
  | 0, r => r
  | n + 1, r => .unusable :: gap n r
def poolList (es : List (Nat × CpInfo)) (last : Nat) : List CpInfo := es.foldr (fun e r => gap e.1 (e.2 :: r)) (gap last [])
def pool (es : List (Nat × CpInfo)) (last : Nat) : Array CpInfo := ⟨poolList es last⟩
def fileOf (pool : Array CpInfo) (this : Nat) (attrs : Array Attribute := #[]) (ms : Array MethodInfo := #[]) (fl : Nat := 33) (sup : Nat := 0) (ifs : Array Nat := #[]) (fds : Array FieldInfo := #[]) : ClassFile where
  minorVersion := 0
  majorVersion := 65
  constantPool := pool
  accessFlags := fl
  thisClass := this
  superClass := sup
  interfaces := ifs
  fields := fds
  methods := ms
  attributes := attrs
def plain (name : String) (sup : Option ClassId) : Class where
  name := name
  kind := .ordinary
  loader := none
  accessFlags := 33
  super := sup
  interfaces := #[]
  cf := none
  fields := #[]
  methods := #[]
  instanceTypes := #[]
  staticTypes := #[]
  resolved := #[]
  callSites := []
  init := .initialized
  statics := none
  mirror := none

def pool0 : Array CpInfo := pool [(5, u "<init>"), (0, u "()V"), (1, .class_ 10), (1, u "java/lang/Object")] 113

def k0m0 : Method := { name := "<init>", desc := "()V", sig := { parameters := [], returnType := none }, accessFlags := 1, code := none }
/-- java/lang/Object -/
def k0 : Class := { plain "java/lang/Object" none with
  accessFlags := 33
  interfaces := #[]
  cf := some (fileOf pool0 8 #[] #[{ accessFlags := 1, nameIndex := 5, descriptorIndex := 6, attributes := #[] }] 33 0 #[] #[])
  fields := #[]
  methods := #[k0m0]
  instanceTypes := #[]
  staticTypes := #[]
  resolved := Array.replicate 124 none
  statics := none }

def pool1 : Array CpInfo := pool [(2, .class_ 4), (1, u "java/lang/Object"), (0, u "<init>"), (0, u "()V"), (0, .methodref 8 9), (0, .class_ 10), (0, .nameAndType 11 12), (0, u "com/example/count_calibrated_demand/countcalibrateddemand/CountCorrectionCorrectionPinLaw"), (0, u "metOf"), (0, u "(IIII)[I"), (0, .methodref 8 14), (0, .nameAndType 15 16), (0, u "pick"), (0, u "(IIIII)J"), (0, .methodref 18 19), (0, .class_ 20), (0, .nameAndType 21 22), (0, u "com/example/count_calibrated_demand/countcalibrateddemand/CountCorrection"), (0, u "correction"), (0, u "([I[D)D"), (2, u "law"), (0, u "(IIIII)Z")] 7

def k1m0 : Method := { name := "<init>", desc := "()V", sig := { parameters := [], returnType := none }, accessFlags := 2, code := none }
def k1c1 : Code := { maxStack := 7, maxLocals := 15, code := code, exceptionTable := #[], attributes := #[] }
def k1m1 : Method := { name := "law", desc := "(IIIII)Z", sig := { parameters := [.int, .int, .int, .int, .int], returnType := some .boolean }, accessFlags := 9, code := some k1c1 }
def k1c2 : Code := { maxStack := 4, maxLocals := 4, code := method_3_code, exceptionTable := #[], attributes := #[] }
def k1m2 : Method := { name := "metOf", desc := "(IIII)[I", sig := { parameters := [.int, .int, .int, .int], returnType := some (.array .int) }, accessFlags := 10, code := some k1c2 }
def k1c3 : Code := { maxStack := 2, maxLocals := 5, code := method_4_code, exceptionTable := #[], attributes := #[] }
def k1m3 : Method := { name := "pick", desc := "(IIIII)J", sig := { parameters := [.int, .int, .int, .int, .int], returnType := some .long }, accessFlags := 10, code := some k1c3 }
/-- com/example/count_calibrated_demand/countcalibrateddemand/CountCorrectionCorrectionPinLaw -/
def k1 : Class := { plain "com/example/count_calibrated_demand/countcalibrateddemand/CountCorrectionCorrectionPinLaw" (some 0) with
  accessFlags := 49
  interfaces := #[]
  cf := some (fileOf pool1 8 #[] #[{ accessFlags := 2, nameIndex := 5, descriptorIndex := 6, attributes := #[] }, { accessFlags := 9, nameIndex := 25, descriptorIndex := 26, attributes := #[] }, { accessFlags := 10, nameIndex := 11, descriptorIndex := 12, attributes := #[] }, { accessFlags := 10, nameIndex := 15, descriptorIndex := 16, attributes := #[] }] 49 2 #[] #[])
  fields := #[]
  methods := #[k1m0, k1m1, k1m2, k1m3]
  instanceTypes := #[]
  staticTypes := #[]
  resolved := Array.replicate 34 none
  statics := none }

def pool2 : Array CpInfo := pool [(2, .class_ 4), (1, u "java/lang/Object"), (3, .class_ 10), (1, u "com/example/count_calibrated_demand/countcalibrateddemand/CountCorrection"), (0, u "counts"), (0, u "Ljava/util/List;"), (8, u "targets"), (0, u "[D"), (2, u "variances"), (42, u "[I"), (2, u "countsOfLink"), (0, u "[[I"), (2, u "NONE"), (0, .class_ 77), (0, u "com/example/count_calibrated_demand/countcalibrateddemand/CountCorrection$Passages"), (25, u "correction"), (0, u "([I[D)D")] 6

def k2c0 : Code := { maxStack := 4, maxLocals := 8, code := prog_11_method_4_code, exceptionTable := #[], attributes := #[] }
def k2m0 : Method := { name := "correction", desc := "([I[D)D", sig := { parameters := [(.array .int), (.array .double)], returnType := some .double }, accessFlags := 8, code := some k2c0 }
/-- com/example/count_calibrated_demand/countcalibrateddemand/CountCorrection -/
def k2 : Class := { plain "com/example/count_calibrated_demand/countcalibrateddemand/CountCorrection" (some 0) with
  accessFlags := 48
  interfaces := #[]
  cf := some (fileOf pool2 8 #[.nestMembers #[76]] #[{ accessFlags := 8, nameIndex := 103, descriptorIndex := 104, attributes := #[] }] 48 2 #[] #[{ accessFlags := 26, nameIndex := 75, descriptorIndex := 68, attributes := #[] }, { accessFlags := 18, nameIndex := 11, descriptorIndex := 12, attributes := #[] }, { accessFlags := 18, nameIndex := 21, descriptorIndex := 22, attributes := #[] }, { accessFlags := 18, nameIndex := 25, descriptorIndex := 22, attributes := #[] }, { accessFlags := 18, nameIndex := 71, descriptorIndex := 72, attributes := #[] }])
  fields := #[{ name := "NONE", type := (.array .int), accessFlags := 26, slot := 0, constantValue := 0 }, { name := "counts", type := (.object "java/util/List"), accessFlags := 18, slot := 0, constantValue := 0 }, { name := "targets", type := (.array .double), accessFlags := 18, slot := 1, constantValue := 0 }, { name := "variances", type := (.array .double), accessFlags := 18, slot := 2, constantValue := 0 }, { name := "countsOfLink", type := (.array (.array .int)), accessFlags := 18, slot := 3, constantValue := 0 }]
  methods := #[k2m0]
  instanceTypes := #[(.object "java/util/List"), (.array .double), (.array .double), (.array (.array .int))]
  staticTypes := #[(.array .int)]
  resolved := Array.replicate 111 none
  statics := none }

def pool3 : Array CpInfo := pool [(1, u "java/lang/Cloneable"), (0, .class_ 1), (0, u "java/lang/Object"), (0, .class_ 3)] 3

/-- java/lang/Cloneable -/
def k3 : Class := { plain "java/lang/Cloneable" (some 0) with
  accessFlags := 1537
  interfaces := #[]
  cf := some (fileOf pool3 2 #[] #[] 1537 4 #[] #[])
  fields := #[]
  methods := #[]
  instanceTypes := #[]
  staticTypes := #[]
  resolved := Array.replicate 8 none
  statics := none }

def pool4 : Array CpInfo := pool [(1, u "java/io/Serializable"), (0, .class_ 1), (0, u "java/lang/Object"), (0, .class_ 3)] 3

/-- java/io/Serializable -/
def k4 : Class := { plain "java/io/Serializable" (some 0) with
  accessFlags := 1537
  interfaces := #[]
  cf := some (fileOf pool4 2 #[] #[] 1537 4 #[] #[])
  fields := #[]
  methods := #[]
  instanceTypes := #[]
  staticTypes := #[]
  resolved := Array.replicate 8 none
  statics := none }

/-- the primitive byte -/
def k5 : Class := { plain "byte" none with kind := .primitive 'B', accessFlags := 0x411 }
/-- [B -/
def k6 : Class := { plain "[B" (some 0) with kind := .array 5 .byte, interfaces := #[3, 4], accessFlags := 1041 }

/-- the primitive double -/
def k7 : Class := { plain "double" none with kind := .primitive 'D', accessFlags := 0x411 }
/-- [D -/
def k8 : Class := { plain "[D" (some 0) with kind := .array 7 .double, interfaces := #[3, 4], accessFlags := 1041 }

/-- the primitive int -/
def k9 : Class := { plain "int" none with kind := .primitive 'I', accessFlags := 0x411 }
/-- [I -/
def k10 : Class := { plain "[I" (some 0) with kind := .array 9 .int, interfaces := #[3, 4], accessFlags := 1041 }

def heap : Heap := #[]
def classes : Array Class := #[k0, k1, k2, k3, k4, k5, k6, k7, k8, k9, k10]
def interned : List (Array UInt16 × Addr) := []
def slotsUsed : Nat := 0
def theMethod : MethodId := ⟨1, 1⟩
def args0 : Array Value := #[.int 5, .int 5, .int 5, .int 5, .int 5]
def aboutOver (below : List Frame) : State where
  vm := { classes := classes, interned := interned.toArray }
  heap := heap
  slotsUsed := slotsUsed
  threads := #[{ frames := .invoking theMethod args0 :: below }]
def below0 : List Frame := [.native { method := ⟨0, 0⟩, args := #[] }]
def about1 : State := aboutOver below0
def p0 : Program := .bare "" "" ""
def e0 : Env := launch0.env 0 0 0
theorem w_frames : about1.frames = Frame.invoking theMethod args0 :: below0 := rfl
set_option maxRecDepth 65536 in
theorem w_args : argsFit about1.vm theMethod args0 = true := by decide +kernel
set_option maxRecDepth 65536 in
theorem w_heap : heapFits about1 = true := by decide +kernel
set_option maxRecDepth 65536 in
theorem w_runnable : about1.curStatus? = some .runnable := by decide +kernel
set_option maxRecDepth 65536 in
theorem w_alone : about1.alone = true := by decide +kernel
set_option maxRecDepth 65536 in
theorem w_named : about1.methodNamed? x = some theMethod := by decide +kernel
set_option maxRecDepth 65536 in
theorem w_hears : about1.hears theMethod below0 = true := by decide +kernel
set_option maxRecDepth 65536 in
theorem w_ripe : about1.ripe theMethod args0 below0 = true := by decide +kernel
theorem w_running : about1.status = .running := rfl
set_option maxRecDepth 65536 in
theorem w_room : about1.hasRoom e0.platform room_1 = true :=
  launch0.hasRoom_least _ room_1 (by decide +kernel) (by decide +kernel) (by decide +kernel) (by decide +kernel) (by decide +kernel) (by decide +kernel)
theorem allAtoms_all (ts : List Jvm.Cond) (a : Array Jvm.Value) (st : Jvm.State) : (allAtoms ts).before a st = ts.all (fun c => c.before a st) := by
  induction ts with
  | nil => rfl
  | cons c t ih =>
    show (Jvm.Cond.and c (allAtoms t)).before a st = _
    rw [Jvm.Cond.before_and, ih, List.all_cons]
def words1 : List Jvm.Cond := Jvm.Cond.code x code maxLocals ret :: tables_1
/-- a 'code' word, met by the world's own term for the bytes: nothing is compared byte by byte -/
theorem code_word {y : MethodName} {bytes : ByteArray} {mx : Nat} {rt : Option FieldType} {a : Array Value} {s : State} {m : MethodId} {meth : Method} {c : Code} (h1 : s.methodNamed? y = some m) (h2 : s.vm.method? m = some meth) (h3 : meth.code = some c) (h4 : c.code = bytes)
    (h5 : (c.maxLocals == mx && c.exceptionTable.isEmpty && decide (c.maxStack ≤ mostOperands) && decide (meth.sig.returnType = rt) && !meth.locks && decide (parseMethodDescriptor y.desc = some meth.sig)) = true) : (Jvm.Cond.code y bytes mx rt).before a s = true := by
  simp only [Bool.and_eq_true, beq_iff_eq, Bool.not_eq_true', decide_eq_true_eq] at h5
  obtain ⟨⟨⟨⟨⟨g1, g2⟩, g3⟩, g4⟩, g5⟩, g6⟩ := h5
  simp [Cond.before, Cond.holds, Cond.value, h1, h2, h3, h4, g1, g2, g3, g4, g5, g6]
def isCode : Jvm.Cond → Bool
  | .code _ _ _ _ => true
  | _ => false
theorem all_split {L : List Jvm.Cond} {P : Jvm.Cond → Bool} (h1 : L.all (fun c => isCode c || P c) = true) (h2 : ∀ c ∈ L.filter isCode, P c = true) : L.all P = true := by
  refine List.all_eq_true.mpr fun c hc => ?_
  have h := List.all_eq_true.mp h1 c hc
  rcases Bool.eq_false_or_eq_true (isCode c) with hi | hi
  · exact h2 c (List.mem_filter.mpr ⟨hc, hi⟩)
  · simpa [hi] using h
set_option maxRecDepth 65536 in
theorem w_c0 : (Jvm.Cond.code x code maxLocals ret).before args0 about1 = true := code_word (m := ⟨1, 1⟩) (meth := k1m1) (c := k1c1) (by decide +kernel) rfl rfl rfl (by decide +kernel)
set_option maxRecDepth 65536 in
theorem w_c1 : (Jvm.Cond.code ({ cls := "com/example/count_calibrated_demand/countcalibrateddemand/CountCorrectionCorrectionPinLaw", name := "metOf", desc := "(IIII)[I" } : Jvm.MethodName) method_3_code (4 : Nat) (Option.some (Jvm.ClassFile.FieldType.array Jvm.ClassFile.FieldType.int))).before args0 about1 = true := code_word (m := ⟨1, 2⟩) (meth := k1m2) (c := k1c2) (by decide +kernel) rfl rfl rfl (by decide +kernel)
set_option maxRecDepth 65536 in
theorem w_c2 : (Jvm.Cond.code ({ cls := "com/example/count_calibrated_demand/countcalibrateddemand/CountCorrection", name := "correction", desc := "([I[D)D" } : Jvm.MethodName) prog_11_method_4_code (8 : Nat) (Option.some Jvm.ClassFile.FieldType.double)).before args0 about1 = true := code_word (m := ⟨2, 0⟩) (meth := k2m0) (c := k2c0) (by decide +kernel) rfl rfl rfl (by decide +kernel)
set_option maxRecDepth 65536 in
theorem w_c3 : (Jvm.Cond.code ({ cls := "com/example/count_calibrated_demand/countcalibrateddemand/CountCorrectionCorrectionPinLaw", name := "pick", desc := "(IIIII)J" } : Jvm.MethodName) method_4_code (5 : Nat) (Option.some Jvm.ClassFile.FieldType.long)).before args0 about1 = true := code_word (m := ⟨1, 3⟩) (meth := k1m3) (c := k1c3) (by decide +kernel) rfl rfl rfl (by decide +kernel)
def codes1 : List Jvm.Cond := [Jvm.Cond.code x code maxLocals ret, Jvm.Cond.code ({ cls := "com/example/count_calibrated_demand/countcalibrateddemand/CountCorrectionCorrectionPinLaw", name := "metOf", desc := "(IIII)[I" } : Jvm.MethodName) method_3_code (4 : Nat) (Option.some (Jvm.ClassFile.FieldType.array Jvm.ClassFile.FieldType.int)), Jvm.Cond.code ({ cls := "com/example/count_calibrated_demand/countcalibrateddemand/CountCorrection", name := "correction", desc := "([I[D)D" } : Jvm.MethodName) prog_11_method_4_code (8 : Nat) (Option.some Jvm.ClassFile.FieldType.double), Jvm.Cond.code ({ cls := "com/example/count_calibrated_demand/countcalibrateddemand/CountCorrectionCorrectionPinLaw", name := "pick", desc := "(IIIII)J" } : Jvm.MethodName) method_4_code (5 : Nat) (Option.some Jvm.ClassFile.FieldType.long)]
set_option maxRecDepth 65536 in
theorem codes_eq : words1.filter isCode = codes1 := rfl
theorem w_codes : ∀ c ∈ words1.filter isCode, c.before args0 about1 = true := by
  rw [codes_eq]
  intro c hc
  simp only [codes1, List.mem_cons, List.not_mem_nil, or_false] at hc
  rcases hc with rfl | rfl | rfl | rfl
  · exact w_c0
  · exact w_c1
  · exact w_c2
  · exact w_c3
set_option maxRecDepth 65536 in
theorem w_t1 : words1.all (fun c => isCode c || c.before args0 about1) = true := by decide +kernel
theorem w_tables : (allAtoms (Jvm.Cond.code x code maxLocals ret :: tables_1)).before args0 about1 = true := by
  rw [allAtoms_all]
  show words1.all (fun c => c.before args0 about1) = true
  refine all_split ?_ w_codes
  rw [w_t1]
set_option maxRecDepth 65536 in
theorem w_case : (Jvm.Cond.and given_1 narrow_1).before args0 about1 = true := by decide +kernel
theorem w_applies : (headSpec (Jvm.Cond.code x code maxLocals ret :: tables_1) room_1).applies x e0.platform about1 = true :=
  (Spec.applies_iff w_frames).mpr ⟨w_running, w_runnable, w_alone, w_named, w_hears, w_ripe, w_room, w_tables⟩
theorem atStart : AtStart classFile x code maxLocals ret World_1 tables_1 room_1 Calls_1 rest_1 Pre_1 launch0 p0 e0 about1 theMethod args0 below0 :=
  ⟨lists_1, trivial, launch0.admits_env _ _ _, launch0.least_env, fairChoices_fair.cas, fairChoices_fair.clock, w_frames, w_args, w_heap, w_applies, trivial, trivial, w_case⟩
end start1
theorem witness_1 : WitnessClaimed_1 := ⟨start1.p0, start1.e0, start1.about1, start1.theMethod, start1.args0, start1.below0, start1.atStart⟩
end Jvm.Pilot.@@N@@
