import JvmDerived
import JvmDerived.Pilot.@@N@@Statement
import JvmDerived.Pilot.@@N@@Code
set_option linter.unusedVariables false
set_option linter.unusedSimpArgs false
namespace Jvm.RoadKit
open Sem ClassFile Op Lib Jvm.Stand Jvm.Free Jvm.LawKit
section New
variable {p : Program} {l : Launch} {e : Env} {R : Room} {s : State} {m : MethodId} {args : Array Value} {below : List Frame} {meth : Method} {c : Code} {T : State} {locs : List Loc} {cells slots : Nat}
theorem retI (X : Stand p l e R s m args below meth c T locs cells slots) (hx : p.tables.exec = Jvm.exec) {pc : Nat} {Ls : Array Slot} {z : Int32} {rest : List Value} (hret : meth.sig.returnType = some .int) (hd : decode c.code pc = .ok (.ireturn, 1)) {fs : List Frame}
    (hl : ∀ (f : JFrame) (acts : List Action), f.method = m → f.locked = none → f.entered = [] → (doReturn e (T.setTop f) acts (some (.int z))).1 = T.setFrames fs) : Steps p.tables e below (T.setTop (mkF m pc Ls (.int z :: rest))) (T.setFrames fs) := by
  have hm' : T.vm.method? m = some meth := X.method'
  have hn : narrow .int (.int z) = .int z := rfl
  show Steps p.tables e below (T.setTop { method := m, pc := pc, locals := Ls, stack := _ :: rest, locked := none }) _
  jvm_step X.here [X.here.top, hx, hd, hm', hret, hn]
  first | (intro acts; rw [hl _ acts rfl rfl rfl]) | rw [hl _ _ rfl rfl rfl]
  exact Steps.refl _
end New
end Jvm.RoadKit
namespace Jvm.RoadKit
open Sem ClassFile Op Lib Jvm.Stand Jvm.Free Jvm.LawKit
/-- own: the rest of a run, from the state t on -/
def Go (p : Program) (e : Env) (below : List Frame) (s : State) (Q : Option Value → Heap → List Loc → Prop) (C S : Nat) (t : State) : Prop :=
  ∃ s₂ o, Steps p.tables e below t s₂ ∧ s₂.status = .running ∧ Ended s₂ below o ∧ ∃ v L, o = .returned v ∧ Q v s₂.heap L ∧ FrameEnd s o s₂ L C S
theorem Go.st {p : Program} {e : Env} {below : List Frame} {s : State} {Q : Option Value → Heap → List Loc → Prop} {C S : Nat} {t t' : State} (h : ∀ target, Steps p.tables e below t' target → Steps p.tables e below t target) (k : Go p e below s Q C S t') : Go p e below s Q C S t := by
  obtain ⟨s₂, o, h1, h2⟩ := k
  exact ⟨s₂, o, h _ h1, h2⟩
theorem Go.by {p : Program} {e : Env} {below : List Frame} {s : State} {Q : Option Value → Heap → List Loc → Prop} {C S : Nat} {t t' : State} (h : Steps p.tables e below t t') (k : Go p e below s Q C S t') : Go p e below s Q C S t := by
  obtain ⟨s₂, o, h1, h2⟩ := k
  exact ⟨s₂, o, h.trans h1, h2⟩
theorem Go.ret {p : Program} {l : Launch} {e : Env} {R : Room} {s : State} {m : MethodId} {args : Array Value} {below : List Frame} {meth : Method} {c : Code} {T : State} {locs : List Loc} {cells slots : Nat} {Q : Option Value → Heap → List Loc → Prop} {C S : Nat} {t : State}
    (X : Stand p l e R s m args below meth c T locs cells slots) {v : Option Value} (hv : meth.sig.returnType = none → v = none) (hlocks : meth.locks = false)
    (st : ∀ fs, (∀ (f : JFrame) (acts : List Action), f.method = m → f.locked = none → f.entered = [] → (doReturn e (T.setTop f) acts v).1 = T.setFrames fs) → Steps p.tables e below t (T.setFrames fs))
    (hQ : Q v T.heap locs) (hC : cells ≤ C) (hS : slots ≤ S) : Go p e below s Q C S t := by
  obtain ⟨fs, hr, hrun, hended, hW, hsame⟩ := X.leave hv hlocks
  exact ⟨_, _, st fs hr, hrun, hended, _, _, rfl, hQ, ⟨_, rfl⟩, hW, hsame.mono hC hS⟩
def GoW (p : Program) (e : Env) (below : List Frame) (s : State) (Q : Option Value → Heap → List Loc → Prop) (C S : Nat) (t : State) : Prop :=
  ∃ s₂ o, Steps p.tables e below t s₂ ∧ s₂.status = .running ∧ Ended s₂ below o ∧ ∃ v L, o = .returned v ∧ Q v s₂.heap L ∧ ReturnedEndW s o s₂ L C S
theorem GoW.st {p : Program} {e : Env} {below : List Frame} {s : State} {Q : Option Value → Heap → List Loc → Prop} {C S : Nat} {t t' : State} (h : ∀ target, Steps p.tables e below t' target → Steps p.tables e below t target) (k : GoW p e below s Q C S t') : GoW p e below s Q C S t := by
  obtain ⟨s₂, o, h1, h2⟩ := k
  exact ⟨s₂, o, h _ h1, h2⟩
theorem GoW.by {p : Program} {e : Env} {below : List Frame} {s : State} {Q : Option Value → Heap → List Loc → Prop} {C S : Nat} {t t' : State} (h : Steps p.tables e below t t') (k : GoW p e below s Q C S t') : GoW p e below s Q C S t := by
  obtain ⟨s₂, o, h1, h2⟩ := k
  exact ⟨s₂, o, h.trans h1, h2⟩
theorem GoW.ret {p : Program} {l : Launch} {e : Env} {R : Room} {s : State} {vm₁ : Vm} {m : MethodId} {args : Array Value} {below : List Frame} {meth : Method} {c : Code} {T : State} {locs : List Loc} {cells slots : Nat} {Q : Option Value → Heap → List Loc → Prop} {C S : Nat} {t : State}
    (X : Stand p l e R (s.setVm vm₁) m args below meth c T locs cells slots) {n : Nat} (hSi : s.Since vm₁ n) (hn : n ≤ T.heap.size) {v : Option Value} (hv : meth.sig.returnType = none → v = none) (hlocks : meth.locks = false)
    (st : ∀ fs, (∀ (f : JFrame) (acts : List Action), f.method = m → f.locked = none → f.entered = [] → (doReturn e (T.setTop f) acts v).1 = T.setFrames fs) → Steps p.tables e below t (T.setFrames fs))
    (hQ : Q v T.heap locs) (hC : cells ≤ C) (hS : slots ≤ S) : GoW p e below s Q C S t := by
  obtain ⟨fs, hr, hrun, hended, h1, h2, h3, h4⟩ := X.leaveW hSi hn hv hlocks
  exact ⟨_, _, st fs hr, hrun, hended, _, _, rfl, hQ, h1, h2, h3, h4.mono hC hS⟩
abbrev Rm (f c s l : Nat) : Room := { frames := f, cells := c, slots := s, locals := l }
abbrev Met (l : Launch) (Z : State) (ws : List Cond) (y : MethodName) (bytes : ByteArray) (ml : Nat) (rt : Option FieldType) (rm : Room) (as' : Array Value) (h0 : Heap) (Q : Option Value → Heap → List Loc → Prop) : Prop :=
  MetFree l y (head1 (Cond.code y bytes ml rt :: ws) rm) (fun a U => a = as' ∧ Z.Warmed39 U.vm ∧ U.heap = h0) (fun _ _ _ _ _ => True) (fun _ U o U' => ∃ v L, o = .returned v ∧ Q v U'.heap L ∧ FrameEnd U o U' L rm.cells rm.slots)
theorem Met.enter {l : Launch} {Z : State} {ws : List Cond} {y : MethodName} {bytes : ByteArray} {ml : Nat} {rt : Option FieldType} {rm : Room} {as' : Array Value} {h0 : Heap} {Q : Option Value → Heap → List Loc → Prop} {L0 : Array Slot} (hp : plainFor y = true) (ef : ∀ m, entryFrame m as' ml = mkF m 0 L0 [])
    (body : ∀ (p : Program) (e : Env) (s : State) (m : MethodId) (below : List Frame) (meth : Method) (c : Code) (s₁ : State), p.tables.exec = Jvm.exec → c.code = bytes → c.maxLocals = ml → s.vm.findClass y.cls = some m.cls → meth.name = y.name → meth.sig.returnType = rt → meth.locks = false → Z.Warmed39 s.vm → Stand p l e rm s m as' below meth c s₁ [] 0 0 → s₁.heap = h0 → Go p e below s Q rm.cells rm.slots (s₁.setTop (mkF m 0 L0 []))) : Met l Z ws y bytes ml rt rm as' h0 Q := by
  refine MetFree.of_bodySF hp hisR ?_
  intro p e s m args below meth c s₁ Bd hml0 hP hK
  obtain ⟨rfl, hZ, hh⟩ := hP
  have e0 : s₁.heap = h0 := by rw [← hh, Bd.state]; rfl
  exact Go.st (fun t k => castTop (ef m) k) (body p e s m below meth c s₁ Bd.exec Bd.bytes hml0 (findClass_of_methodNamed Bd.named) (name_of_methodNamed Bd.named Bd.method).1 Bd.returns (BodyLoose.notSynchronized Bd) hZ (Stand.of_body Bd) e0)
abbrev MetW (l : Launch) (Z : State) (ws : List Cond) (y : MethodName) (bytes : ByteArray) (ml : Nat) (rt : Option FieldType) (rm : Room) (as' : Array Value) (h0 : Heap) (Q : Option Value → Heap → List Loc → Prop) : Prop :=
  MetFree l y (head1 (Cond.code y bytes ml rt :: ws) rm) (fun a U => a = as' ∧ Z.Warmed39 U.vm ∧ U.heap = h0) (fun _ _ _ _ _ => True) (fun _ U o U' => ∃ v L, o = .returned v ∧ Q v U'.heap L ∧ ReturnedEndW U o U' L rm.cells rm.slots)
theorem MetW.enter {l : Launch} {Z : State} {ws : List Cond} {y : MethodName} {bytes : ByteArray} {ml : Nat} {rt : Option FieldType} {rm : Room} {as' : Array Value} {h0 : Heap} {Q : Option Value → Heap → List Loc → Prop} {L0 : Array Slot} (hp : plainFor y = true) (ef : ∀ m, entryFrame m as' ml = mkF m 0 L0 [])
    (body : ∀ (p : Program) (e : Env) (s : State) (m : MethodId) (below : List Frame) (meth : Method) (c : Code) (s₁ : State), p.tables.exec = Jvm.exec → c.code = bytes → c.maxLocals = ml → s.vm.findClass y.cls = some m.cls → meth.name = y.name → meth.sig.returnType = rt → meth.locks = false → Z.Warmed39 s.vm → Stand p l e rm (s.setVm s.vm) m as' below meth c s₁ [] 0 0 → s₁.heap = h0 → GoW p e below s Q rm.cells rm.slots (s₁.setTop (mkF m 0 L0 []))) : MetW l Z ws y bytes ml rt rm as' h0 Q := by
  refine MetFree.of_bodySF hp hisR ?_
  intro p e s m args below meth c s₁ Bd hml0 hP hK
  obtain ⟨rfl, hZ, hh⟩ := hP
  have e0 : s₁.heap = h0 := by rw [← hh, Bd.state]; rfl
  exact GoW.st (fun t k => castTop (ef m) k) (body p e s m below meth c s₁ Bd.exec Bd.bytes hml0 (findClass_of_methodNamed Bd.named) (name_of_methodNamed Bd.named Bd.method).1 Bd.returns (BodyLoose.notSynchronized Bd) hZ (Stand.of_body Bd) e0)
def GoH (p : Program) (e : Env) (below : List Frame) (s : State) (P : Option Value → State → List Loc → Prop) (C S : Nat) (t : State) : Prop :=
  ∃ s₂ o, Steps p.tables e below t s₂ ∧ s₂.status = .running ∧ Ended s₂ below o ∧ ∃ v L, o = .returned v ∧ P v s₂ L ∧ ReturnedEndW s o s₂ L C S
theorem GoH.st {p : Program} {e : Env} {below : List Frame} {s : State} {P : Option Value → State → List Loc → Prop} {C S : Nat} {t t' : State} (h : ∀ target, Steps p.tables e below t' target → Steps p.tables e below t target) (k : GoH p e below s P C S t') : GoH p e below s P C S t := by
  obtain ⟨s₂, o, h1, h2⟩ := k
  exact ⟨s₂, o, h _ h1, h2⟩
theorem GoH.by {p : Program} {e : Env} {below : List Frame} {s : State} {P : Option Value → State → List Loc → Prop} {C S : Nat} {t t' : State} (h : Steps p.tables e below t t') (k : GoH p e below s P C S t') : GoH p e below s P C S t := by
  obtain ⟨s₂, o, h1, h2⟩ := k
  exact ⟨s₂, o, h.trans h1, h2⟩
theorem GoH.ret {p : Program} {l : Launch} {e : Env} {R : Room} {s : State} {vm₁ : Vm} {m : MethodId} {args : Array Value} {below : List Frame} {meth : Method} {c : Code} {T : State} {locs : List Loc} {cells slots : Nat} {Q : Option Value → Heap → List Loc → Prop} {C S : Nat} {t : State} {Z : State} {EL : List (String × Nat)} {a0 : Array Value} {h0 h : Heap}
    (X : Stand p l e R (s.setVm vm₁) m args below meth c T locs cells slots) {n : Nat} (hSi : s.Since vm₁ n) (hn : n ≤ T.heap.size) (hZ : Z.Warmed39 vm₁) (hEL : EW Z a0 EL) (ch : CHr Z EL s.vm h0 vm₁ h) (eT : T.heap = h) {v : Option Value} (hv : meth.sig.returnType = none → v = none) (hlocks : meth.locks = false)
    (st : ∀ fs, (∀ (f : JFrame) (acts : List Action), f.method = m → f.locked = none → f.entered = [] → (doReturn e (T.setTop f) acts v).1 = T.setFrames fs) → Steps p.tables e below t (T.setFrames fs))
    (hQ : Q v T.heap locs) (hC : cells ≤ C) (hS : slots ≤ S) : GoH p e below s (fun v s₂ L => Q v s₂.heap L ∧ CHr Z EL s.vm h0 s₂.vm s₂.heap) C S t := by
  obtain ⟨fs, hr, hrun, hended, h1, h2, h3, h4⟩ := X.leaveW hSi hn hv hlocks
  have q := ch.trans (CHv.at X hZ hEL ch.1)
  rw [← eT] at q
  exact ⟨_, _, st fs hr, hrun, hended, _, _, rfl, ⟨hQ, q⟩, h1, h2, h3, h4.mono hC hS⟩
abbrev MetH (EL : List (String × Nat)) (xs : List Addr) (l : Launch) (Z : State) (ws : List Cond) (y : MethodName) (bytes : ByteArray) (ml : Nat) (rt : Option FieldType) (rm : Room) (as' : Array Value) (h0 : Heap) (Q : Option Value → Heap → List Loc → Prop) : Prop :=
  MetFree l y (head1 (Cond.code y bytes ml rt :: ws) rm) (fun a U => a = as' ∧ Z.Warmed39 U.vm ∧ U.heap = h0 ∧ CHv Z EL U.vm h0 ∧ ∀ x ∈ xs, Safe Z EL U.vm h0 x) (fun _ _ _ _ _ => True) (fun _ U o U' => ∃ v L, o = .returned v ∧ Q v U'.heap L ∧ CHr Z EL U.vm U.heap U'.vm U'.heap ∧ ReturnedEndW U o U' L rm.cells rm.slots)
theorem MetH.enter {EL : List (String × Nat)} {xs : List Addr} {l : Launch} {Z : State} {ws : List Cond} {y : MethodName} {bytes : ByteArray} {ml : Nat} {rt : Option FieldType} {rm : Room} {as' : Array Value} {h0 : Heap} {Q : Option Value → Heap → List Loc → Prop} {L0 : Array Slot} (hp : plainFor y = true) (ef : ∀ m, entryFrame m as' ml = mkF m 0 L0 [])
    (body : ∀ (p : Program) (e : Env) (s : State) (m : MethodId) (below : List Frame) (meth : Method) (c : Code) (s₁ : State), p.tables.exec = Jvm.exec → c.code = bytes → c.maxLocals = ml → s.vm.findClass y.cls = some m.cls → meth.name = y.name → meth.sig.returnType = rt → meth.locks = false → Z.Warmed39 s.vm → Stand p l e rm (s.setVm s.vm) m as' below meth c s₁ [] 0 0 → s₁.heap = h0 → CHv Z EL s.vm h0 → (∀ x ∈ xs, Safe Z EL s.vm h0 x) → GoH p e below s (fun v s₂ L => Q v s₂.heap L ∧ CHr Z EL s.vm h0 s₂.vm s₂.heap) rm.cells rm.slots (s₁.setTop (mkF m 0 L0 []))) : MetH EL xs l Z ws y bytes ml rt rm as' h0 Q := by
  refine MetFree.of_bodySF hp hisR ?_
  intro p e s m args below meth c s₁ Bd hml0 hP hK
  obtain ⟨rfl, hZ, hh, hH, hX⟩ := hP
  have e0 : s₁.heap = h0 := by rw [← hh, Bd.state]; rfl
  obtain ⟨s₂, o, q1, q2, q3, v, L, q4, ⟨q5, q6⟩, q7⟩ := GoH.st (fun t k => castTop (ef m) k) (body p e s m below meth c s₁ Bd.exec Bd.bytes hml0 (findClass_of_methodNamed Bd.named) (name_of_methodNamed Bd.named Bd.method).1 Bd.returns (BodyLoose.notSynchronized Bd) hZ (Stand.of_body Bd) e0 hH hX)
  exact ⟨s₂, o, q1, q2, q3, v, L, q4, q5, by rw [hh]; exact q6, q7⟩
abbrev MetP (EL : List (String × Nat)) (xs : List Addr) (l : Launch) (Z : State) (ws : List Cond) (y : MethodName) (bytes : ByteArray) (ml : Nat) (rt : Option FieldType) (rm : Room) (as' : Array Value) (h0 : Heap) (Q : Option Value → Heap → List Loc → Prop) : Prop :=
  MetFree l y (head1 (Cond.code y bytes ml rt :: ws) rm) (fun a U => a = as' ∧ Z.Warmed39 U.vm ∧ U.heap = h0 ∧ CHv Z EL U.vm h0 ∧ ∀ x ∈ xs, Safe Z EL U.vm h0 x) (fun _ _ _ _ _ => True) (fun _ U o U' => ∃ v L, o = .returned v ∧ Q v U'.heap L ∧ ReturnedEndW U o U' L rm.cells rm.slots)
theorem MetP.enter {EL : List (String × Nat)} {xs : List Addr} {l : Launch} {Z : State} {ws : List Cond} {y : MethodName} {bytes : ByteArray} {ml : Nat} {rt : Option FieldType} {rm : Room} {as' : Array Value} {h0 : Heap} {Q : Option Value → Heap → List Loc → Prop} {L0 : Array Slot} (hp : plainFor y = true) (ef : ∀ m, entryFrame m as' ml = mkF m 0 L0 [])
    (body : ∀ (p : Program) (e : Env) (s : State) (m : MethodId) (below : List Frame) (meth : Method) (c : Code) (s₁ : State), p.tables.exec = Jvm.exec → c.code = bytes → c.maxLocals = ml → s.vm.findClass y.cls = some m.cls → meth.name = y.name → meth.sig.returnType = rt → meth.locks = false → Z.Warmed39 s.vm → Stand p l e rm (s.setVm s.vm) m as' below meth c s₁ [] 0 0 → s₁.heap = h0 → CHv Z EL s.vm h0 → (∀ x ∈ xs, Safe Z EL s.vm h0 x) → GoW p e below s Q rm.cells rm.slots (s₁.setTop (mkF m 0 L0 []))) : MetP EL xs l Z ws y bytes ml rt rm as' h0 Q := by
  refine MetFree.of_bodySF hp hisR ?_
  intro p e s m args below meth c s₁ Bd hml0 hP hK
  obtain ⟨rfl, hZ, hh, hH, hX⟩ := hP
  have e0 : s₁.heap = h0 := by rw [← hh, Bd.state]; rfl
  exact GoW.st (fun t k => castTop (ef m) k) (body p e s m below meth c s₁ Bd.exec Bd.bytes hml0 (findClass_of_methodNamed Bd.named) (name_of_methodNamed Bd.named Bd.method).1 Bd.returns (BodyLoose.notSynchronized Bd) hZ (Stand.of_body Bd) e0 hH hX)
theorem own_backOfSX {p : Program} {l : Launch} {e : Env} {R : Room} {s : State} {args : Array Value} {below : List Frame} {Z : State} {a0 : Array Value} {EL : List (String × Nat)} {xs : List Addr} {h : Heap} {vm0 : Vm} {y : MethodName} {bytes : ByteArray} {maxL : Nat} {ret : Option FieldType} {rm : Room} {len W : Nat} {as' : Array Value} {Q : Option Value → Heap → List Loc → Prop}
    (hM : MetFree l y (head1 [Cond.code y bytes maxL ret] rm) (fun a U => a = as' ∧ Z.Warmed39 U.vm ∧ U.heap = h ∧ CHv Z EL U.vm h ∧ ∀ x ∈ xs, Safe Z EL U.vm h x) (fun _ _ _ _ _ => True) (fun _ U o U' => ∃ v L, o = .returned v ∧ Q v U'.heap L ∧ CHr Z EL U.vm U.heap U'.vm U'.heap ∧ ReturnedEndW U o U' L rm.cells rm.slots))
    (hZ : Z.Warmed39 vm0) (wc : (Cond.code y bytes maxL ret).before a0 Z = true) (wz : (Cond.initialized y.cls).before a0 Z = true) (hf : rm.frames + 1 ≤ R.frames) (hl : W + (maxL + 11) + rm.locals ≤ R.locals) (hEL : EW Z a0 EL) (H : CHv Z EL vm0 h) (hxs : ∀ x ∈ xs, x < h.size ∧ Safe Z EL vm0 h x) :
    BackS l R p e below (s.setVm vm0) args y len W (fun A a => a = as' ∧ A.U.heap = h ∧ A.cells + rm.cells ≤ R.cells ∧ A.slots + rm.slots ≤ R.slots)
      (fun A _ v B => ∃ L, Q v B.U.heap L ∧ B.locs = A.locs ++ L ∧ B.cells = A.cells + rm.cells ∧ B.slots = A.slots + rm.slots ∧ CHr Z EL vm0 h B.U.vm B.U.heap) :=
  BackS.of_freeW (bytes := bytes) (maxL := maxL) (ret := ret) (E := fun _ first o t L k n => k = rm.cells ∧ n = rm.slots ∧ (∃ v, o = .returned v ∧ Q v t.heap L) ∧ CHr Z EL first.vm first.heap t.vm t.heap) hM hf hl
    (fun m meth c A a Y hp => have hU : Z.Warmed39 A.U.vm := wtrans (s := s.setVm vm0) hZ Y.warmed
      ⟨by show (Cond.and _ .tt).before a A.U = true; rw [Cond.before_and, mv hU wc]; rfl, mv hU wc, mv hU wz, hp.2.2.1, hp.2.2.2⟩)
    (fun m meth c A a g mk Y hp => ⟨hp.1, wtrans (s := s.setVm vm0) hZ Y.warmed, hp.2.1, (CHv.at Y hZ hEL H).1, fun x hx => (CHv.at Y hZ hEL H).safe (hxs x hx).1 (hxs x hx).2⟩) (fun _ _ _ _ _ _ _ _ _ => trivial)
    (fun _ _ _ _ ⟨v, L, h1, h2, h3, h4⟩ => ⟨L, _, _, h4, rfl, rfl, ⟨v, h1, h2⟩, h3⟩)
    (fun m meth c A a g mk v t L k n Y hp _ _ ⟨e1, e2, ⟨v', e3, e4⟩, e5⟩ => by
      cases e3; subst e1 e2
      refine ⟨L, e4, rfl, rfl, rfl, (CHv.at Y hZ hEL H).trans ?_⟩
      rw [← hp.2.1]; exact e5)
theorem own_backOfSP {p : Program} {l : Launch} {e : Env} {R : Room} {s : State} {args : Array Value} {below : List Frame} {Z : State} {a0 : Array Value} {EL : List (String × Nat)} {xs : List Addr} {h : Heap} {vm0 : Vm} {y : MethodName} {bytes : ByteArray} {maxL : Nat} {ret : Option FieldType} {rm : Room} {len W : Nat} {as' : Array Value} {Q : Option Value → Heap → List Loc → Prop}
    (hM : MetFree l y (head1 [Cond.code y bytes maxL ret] rm) (fun a U => a = as' ∧ Z.Warmed39 U.vm ∧ U.heap = h ∧ CHv Z EL U.vm h ∧ ∀ x ∈ xs, Safe Z EL U.vm h x) (fun _ _ _ _ _ => True) (fun _ U o U' => ∃ v L, o = .returned v ∧ Q v U'.heap L ∧ ReturnedEndW U o U' L rm.cells rm.slots))
    (hZ : Z.Warmed39 vm0) (wc : (Cond.code y bytes maxL ret).before a0 Z = true) (wz : (Cond.initialized y.cls).before a0 Z = true) (hf : rm.frames + 1 ≤ R.frames) (hl : W + (maxL + 11) + rm.locals ≤ R.locals) (hEL : EW Z a0 EL) (H : CHv Z EL vm0 h) (hxs : ∀ x ∈ xs, x < h.size ∧ Safe Z EL vm0 h x) :
    BackS l R p e below (s.setVm vm0) args y len W (fun A a => a = as' ∧ A.U.heap = h ∧ A.cells + rm.cells ≤ R.cells ∧ A.slots + rm.slots ≤ R.slots)
      (fun A _ v B => ∃ L, Q v B.U.heap L ∧ B.locs = A.locs ++ L ∧ B.cells = A.cells + rm.cells ∧ B.slots = A.slots + rm.slots) :=
  BackS.of_freeW (bytes := bytes) (maxL := maxL) (ret := ret) (E := fun _ first o t L k n => k = rm.cells ∧ n = rm.slots ∧ (∃ v, o = .returned v ∧ Q v t.heap L)) hM hf hl
    (fun m meth c A a Y hp => have hU : Z.Warmed39 A.U.vm := wtrans (s := s.setVm vm0) hZ Y.warmed
      ⟨by show (Cond.and _ .tt).before a A.U = true; rw [Cond.before_and, mv hU wc]; rfl, mv hU wc, mv hU wz, hp.2.2.1, hp.2.2.2⟩)
    (fun m meth c A a g mk Y hp => ⟨hp.1, wtrans (s := s.setVm vm0) hZ Y.warmed, hp.2.1, (CHv.at Y hZ hEL H).1, fun x hx => (CHv.at Y hZ hEL H).safe (hxs x hx).1 (hxs x hx).2⟩) (fun _ _ _ _ _ _ _ _ _ => trivial)
    (fun _ _ _ _ ⟨v, L, h1, h2, h4⟩ => ⟨L, _, _, h4, rfl, rfl, ⟨v, h1, h2⟩⟩)
    (fun m meth c A a g mk v t L k n Y hp _ _ ⟨e1, e2, ⟨v', e3, e4⟩⟩ => by
      cases e3; subst e1 e2
      exact ⟨L, e4, rfl, rfl, rfl⟩)
theorem retR {p : Program} {l : Launch} {e : Env} {R : Room} {s : State} {m : MethodId} {args : Array Value} {below : List Frame} {meth : Method} {c : Code} {T : State} {locs : List Loc} {cells slots : Nat} (X : Stand p l e R s m args below meth c T locs cells slots) (hx : p.tables.exec = Jvm.exec) {pc : Nat} {Ls : Array Slot} {z : Value} {rest : List Value} {t : FieldType} (hret : meth.sig.returnType = some t) (ht : t.isReference = true) (hz : z.isRef = true) (hd : decode c.code pc = .ok (.areturn, 1)) {fs : List Frame}
    (hl : ∀ (f : JFrame) (acts : List Action), f.method = m → f.locked = none → f.entered = [] → (doReturn e (T.setTop f) acts (some z)).1 = T.setFrames fs) : Steps p.tables e below (T.setTop (mkF m pc Ls (z :: rest))) (T.setFrames fs) := by
  have hm' : T.vm.method? m = some meth := X.method'
  show Steps p.tables e below (T.setTop { method := m, pc := pc, locals := Ls, stack := _ :: rest, locked := none }) _
  jvm_step X.here [X.here.top, hx, hd, hm', hret, ht, hz]
  first | (intro acts; rw [hl _ acts rfl rfl rfl]) | rw [hl _ _ rfl rfl rfl]
  exact Steps.refl _
theorem retJ {p : Program} {l : Launch} {e : Env} {R : Room} {s : State} {m : MethodId} {args : Array Value} {below : List Frame} {meth : Method} {c : Code} {T : State} {locs : List Loc} {cells slots : Nat} (X : Stand p l e R s m args below meth c T locs cells slots) (hx : p.tables.exec = Jvm.exec) {pc : Nat} {Ls : Array Slot} {z : Int64} {rest : List Value} (hret : meth.sig.returnType = some .long) (hd : decode c.code pc = .ok (.lreturn, 1)) {fs : List Frame}
    (hl : ∀ (f : JFrame) (acts : List Action), f.method = m → f.locked = none → f.entered = [] → (doReturn e (T.setTop f) acts (some (.long z))).1 = T.setFrames fs) : Steps p.tables e below (T.setTop (mkF m pc Ls (.long z :: rest))) (T.setFrames fs) := by
  have hm' : T.vm.method? m = some meth := X.method'
  show Steps p.tables e below (T.setTop { method := m, pc := pc, locals := Ls, stack := _ :: rest, locked := none }) _
  jvm_step X.here [X.here.top, hx, hd, hm', hret, narrow]
  first | (intro acts; rw [hl _ acts rfl rfl rfl]) | rw [hl _ _ rfl rfl rfl]
  exact Steps.refl _
theorem retD {p : Program} {l : Launch} {e : Env} {R : Room} {s : State} {m : MethodId} {args : Array Value} {below : List Frame} {meth : Method} {c : Code} {T : State} {locs : List Loc} {cells slots : Nat} (X : Stand p l e R s m args below meth c T locs cells slots) (hx : p.tables.exec = Jvm.exec) {pc : Nat} {Ls : Array Slot} {z : UInt64} {rest : List Value} (hret : meth.sig.returnType = some .double) (hd : decode c.code pc = .ok (.dreturn, 1)) {fs : List Frame}
    (hl : ∀ (f : JFrame) (acts : List Action), f.method = m → f.locked = none → f.entered = [] → (doReturn e (T.setTop f) acts (some (.double z))).1 = T.setFrames fs) : Steps p.tables e below (T.setTop (mkF m pc Ls (.double z :: rest))) (T.setFrames fs) := by
  have hm' : T.vm.method? m = some meth := X.method'
  show Steps p.tables e below (T.setTop { method := m, pc := pc, locals := Ls, stack := _ :: rest, locked := none }) _
  jvm_step X.here [X.here.top, hx, hd, hm', hret, narrow]
  first | (intro acts; rw [hl _ acts rfl rfl rfl]) | rw [hl _ _ rfl rfl rfl]
  exact Steps.refl _
theorem Arr.keep {Z : State} {h h' : Heap} {a : Addr} {c : Cell} {ty : FieldType} {ws : List Addr} (F : Arr Z h a c ty) (K : Keep h h' ws) (q : a ∉ ws) : Arr Z h' a c ty := ⟨K.2.1 a c F.1 q, F.2⟩
theorem Ins.keep {Z : State} {h h' : Heap} {a : Addr} {C : String} {b : Bool} {ws : List Addr} (F : Ins Z h a C b) (K : Keep h h' ws) : Ins Z h' a C b := by
  obtain ⟨cell, cT, h1, h2, h3⟩ := F
  obtain ⟨c', q, r1, r2, -⟩ := K.2.2 a cell h1
  exact ⟨c', cT, q, h2, by rw [r1, r2]; exact h3⟩
theorem own_selp {Z : State} {a0 : Array Value} {y : MethodName} {k : Nat} (wi : (Jvm.Cond.instantiable y.cls k).before a0 Z = true) (wp : (Jvm.Cond.privateMethod y).before a0 Z = true) (wm : (Jvm.Cond.instanceMethod y).before a0 Z = true) (hy : y.cls ≠ "java/lang/invoke/MethodHandle" ∧ y.cls ≠ "java/lang/invoke/VarHandle") : (Jvm.Cond.selects y.cls y y).before a0 Z = true := by
  obtain ⟨c, k', h1, h2, -, h3, -⟩ := Cond.instantiable_spec wi
  exact selects_self_of_private h1 h2 (by simp only [Bool.or_eq_false_iff] at h3; exact h3.1) (Cond.privateMethod_at wp) wm hy
theorem own_mvNest {Z s : State} {a0 args : Array Value} {own host : String} {index : Nat} {y : MethodName} (hZ : Z.Warmed39 s.vm) (w : (Jvm.Cond.methodLinkNest own index y host).before a0 Z = true) : (Jvm.Cond.methodLinkNest own index y host).before args s = true := (Cond.methodLinkNest_wide hZ w :)
theorem own_nsroot {Z : State} {a0 : Array Value} {O K : String} {n : Nat} (w : (Jvm.Cond.noSuperclass O).before a0 Z = true) (wk : (Jvm.Cond.instantiable K n).before a0 Z = true) (hn : O ≠ K) : NS Z O K := by
  obtain ⟨c, k, h1, h2, h3, -, -⟩ := Cond.noSuperclass_spec w
  obtain ⟨t, kt, g1, -⟩ := Cond.instantiable_spec wk
  have ne := ids_ne h1 g1 hn
  exact ⟨c, t, h1, g1, fun fuel => by cases fuel with | zero => rfl | succ f => simp [Vm.isSubclassAux, ne, h2, h3]⟩
theorem own_nsno {Z : State} {a0 : Array Value} {C S K : String} {n : Nat} (w : (Jvm.Cond.superclass C S).before a0 Z = true) (wk : (Jvm.Cond.instantiable K n).before a0 Z = true) (nn : NS Z C K) (hn : C ≠ K) : ∃ c t, Z.vm.findClass C = some c ∧ Z.vm.findClass K = some t ∧ Z.vm.assignable c t = false := by
  obtain ⟨c, t, h0, g0, n3⟩ := nn
  obtain ⟨p, k, kp, -, h2, -, -, h5, -, h7⟩ := Cond.superclass_spec h0 w
  obtain ⟨t', k', g1, g2, g3, g4, -⟩ := Cond.instantiable_spec wk
  cases g0.symm.trans g1
  simp only [Bool.or_eq_false_iff] at g4
  have ne := ids_ne h0 g0 hn
  refine ⟨c, _, h0, g0, ?_⟩
  show Z.vm.assignableAux (255 + 1) c _ = false
  simp [Vm.assignableAux, ne, h2, g2, h5, g3, g4.1, Vm.isSubclass, n3]
section OwnWords
variable {args : Array Value} {first s : State} {o : Option Outcome} {idx : List Nat} {a b t : Term}
theorem own_eqi {z : Int32} (h : (Jvm.Cond.eq a (Term.int z)).value args first o s idx = some true) : a.eval args first o idx s = some (.int z) := by
  obtain ⟨x, y, h1, h2, h3, h4⟩ := cmp_v (Or.inl h)
  obtain rfl : .int z = y := Option.some.inj ((Term.int_eval z).symm.trans h2)
  obtain ⟨w, rfl⟩ := h4
  simp only [Cond.value, h1, h2] at h
  simp at h
  rw [h1, h]
theorem own_eqr {w : Addr} (h : (Jvm.Cond.eq a b).value args first o s idx = some true) (hb : b.eval args first o idx s = some (.ref w)) : a.eval args first o idx s = some (.ref w) := by
  obtain ⟨x, y, h1, h2, h3, h4⟩ := cmp_v (Or.inl h)
  cases h2.symm.trans hb
  have hx : x.isRef = true := h4.2
  have q := gotT (eq_R h1 h2 hx rfl) h
  rw [h1, q]
theorem own_len {n : Int32} {w : Addr} {cl : Cell} (h : (Term.length t).eval args first o idx s = some (.int n)) (ht : t.eval args first o idx s = some (.ref w)) (hc : s.heap[w]? = some cl) : cl.slots.size = n.toNatClampNeg ∧ ¬ n < 0 := by
  obtain ⟨a', cell, ha', hat, hv⟩ := Term.length_spec h
  cases ht.symm.trans ha'
  cases (State.arrayAt?_spec hat).1.symm.trans hc
  have hsz : cl.slots.size < 2 ^ 31 := by
    simp only [Term.eval, ht, hat, Option.bind_eq_bind, Option.bind_some] at h
    by_cases hlt : cl.slots.size < 2147483648
    · exact hlt
    · simp [hlt] at h
  cases hv
  refine ⟨?_, ?_⟩
  · simp only [Int32.toNatClampNeg, len_toInt hsz]; rfl
  · rw [Int32.lt_iff_toInt_lt, len_toInt hsz]; show ¬ (cl.slots.size : Int) < 0; omega
end OwnWords
theorem own_cs {p : Program} {l : Launch} {e : Env} {R : Room} {s : State} {m : MethodId} {args : Array Value} {below : List Frame} {meth : Method} {c : Code} {T : State} {locs : List Loc} {cells slots : Nat} {Z : State} {a0 : Array Value} {h : Heap} {own : String} {index : Nat} {y : MethodName} {bytes : ByteArray} {maxL : Nat} {ret : Option FieldType} {rm : Room} {as' : Array Value} {Q : Option Value → Heap → List Loc → Prop}  {W : Nat} {argsL rest : List Value} {g : JFrame} (X : Stand p l e R s m args below meth c T locs cells slots) (hx : p.tables.exec = Jvm.exec) (hZ : Z.Warmed39 s.vm) (hown : s.vm.findClass own = some m.cls) (w1 : (Cond.methodLink own index y).before a0 Z = true) (w2 : (Cond.static y).before a0 Z = true) (w5 : (Cond.code y bytes maxL ret).before a0 Z = true) (w6 : (Cond.initialized y.cls).before a0 Z = true) (hy : y.cls ≠ "java/lang/invoke/MethodHandle" ∧ y.cls ≠ "java/lang/invoke/VarHandle") (eT : T.heap = h)  (hM : Met l Z [] y bytes maxL ret rm as' h Q)
    (hg : g.method = m) (hsize : g.locals.size = c.maxLocals) (hlen : ∀ sig, parseMethodDescriptor y.desc = some sig → argsL.length = sig.parameters.length) (hst : g.stack = argsL.reverse ++ rest) (hW : 2 * g.monitorRoom + (rest.map fun v => v.category).sum ≤ W) (hd : decode c.code g.pc = .ok (.invokestatic index, 3)) (has : argsL.toArray = as') (hfit : rm.frames + 1 ≤ R.frames ∧ W + (maxL + 11) + rm.locals ≤ R.locals ∧ cells + rm.cells ≤ R.cells ∧ slots + rm.slots ≤ R.slots) :
    ∃ T' v L, Stand p l e R s m args below meth c T' (locs ++ L) (cells + rm.cells) (slots + rm.slots) ∧ Q v T'.heap L ∧ Steps p.tables e below (T.setTop g) (T'.setTop { g with pc := g.pc + 3, stack := v.toList ++ rest }) := by
  obtain ⟨v, vm1, ⟨T', L', k', n'⟩, -, X', ⟨Lc, hQ, l', y', z'⟩, st⟩ := Jvm.LawKit.callS X hx hown (mvT hZ w1) (mvT hZ w2) (mvT hZ w6) (mvT hZ w5) hy (backOf hM hZ w5 w6 hfit.1 hfit.2.1) hg hsize hlen hst hW hd (fun _ _ => ⟨has, eT, hfit.2.2⟩)
  dsimp only [Pt.U, Pt.locs, Pt.cells, Pt.slots] at X' l' y' z' st hQ
  subst l' y' z'
  exact ⟨T', v, Lc, X', hQ, st _ (Steps.refl _)⟩
theorem own_cv {p : Program} {l : Launch} {e : Env} {R : Room} {s : State} {m : MethodId} {args : Array Value} {below : List Frame} {meth : Method} {c : Code} {T : State} {locs : List Loc} {cells slots : Nat} {Z : State} {a0 : Array Value} {h : Heap} {own : String} {index : Nat} {y z : MethodName} {bytes : ByteArray} {maxL : Nat} {ret : Option FieldType} {rm : Room} {as' : Array Value} {Q : Option Value → Heap → List Loc → Prop} {b : Addr} {W : Nat} {argsL rest : List Value} {g : JFrame} {C : String} (X : Stand p l e R s m args below meth c T locs cells slots) (hx : p.tables.exec = Jvm.exec) (hZ : Z.Warmed39 s.vm) (hown : s.vm.findClass own = some m.cls) (w1 : (Cond.methodLink own index y).before a0 Z = true) (w2 : (Cond.declares y).before a0 Z = true) (hnf : NotFace s y) (w3 : (Cond.selects C y z).before a0 Z = true) (w4 : (Cond.instanceMethod z).before a0 Z = true) (w5 : (Cond.code z bytes maxL ret).before a0 Z = true) (w6 : (Cond.initialized z.cls).before a0 Z = true) (hy : y.cls ≠ "java/lang/invoke/MethodHandle" ∧ y.cls ≠ "java/lang/invoke/VarHandle") (eT : T.heap = h) (E : Exa Z h b C) (hM : Met l Z [] z bytes maxL ret rm as' h Q)
    (hg : g.method = m) (hsize : g.locals.size = c.maxLocals) (hlen : ∀ sig, parseMethodDescriptor y.desc = some sig → argsL.length = sig.parameters.length) (hst : g.stack = argsL.reverse ++ .ref b :: rest) (hW : 2 * g.monitorRoom + (rest.map fun v => v.category).sum ≤ W) (hd : decode c.code g.pc = .ok (.invokevirtual index, 3)) (has : (.ref b :: argsL).toArray = as') (hfit : rm.frames + 1 ≤ R.frames ∧ W + (maxL + 11) + rm.locals ≤ R.locals ∧ cells + rm.cells ≤ R.cells ∧ slots + rm.slots ≤ R.slots) :
    ∃ T' v L, Stand p l e R s m args below meth c T' (locs ++ L) (cells + rm.cells) (slots + rm.slots) ∧ Q v T'.heap L ∧ Steps p.tables e below (T.setTop g) (T'.setTop { g with pc := g.pc + 3, stack := v.toList ++ rest }) := by
  obtain ⟨cq, kq, qa, qb, qc⟩ := isOf hZ eT E
  obtain ⟨v, vm1, ⟨T', L', k', n'⟩, -, X', ⟨Lc, hQ, l', y', z'⟩, st⟩ := X.virtualBack hx hown (mvT hZ w1) (mvT hZ w2) hnf (mvT hZ w3) (mvT hZ w4) hy (backOf hM hZ w5 w6 hfit.1 hfit.2.1) qa qc hg hsize (Steps.refl _) hlen hst hW hd (fun _ _ => ⟨has, eT, hfit.2.2⟩)
  dsimp only [Pt.U, Pt.locs, Pt.cells, Pt.slots] at X' l' y' z' st hQ
  subst l' y' z'
  exact ⟨T', v, Lc, X', hQ, st⟩
theorem own_cw {p : Program} {l : Launch} {e : Env} {R : Room} {s : State} {m : MethodId} {args : Array Value} {below : List Frame} {meth : Method} {c : Code} {T : State} {locs : List Loc} {cells slots : Nat} {Z : State} {a0 : Array Value} {h : Heap} {own : String} {index : Nat} {y : MethodName} {bytes : ByteArray} {maxL : Nat} {ret : Option FieldType} {rm : Room} {as' : Array Value} {Q : Option Value → Heap → List Loc → Prop} {b : Addr} {W : Nat} {argsL rest : List Value} {g : JFrame} {C : String} (X : Stand p l e R s m args below meth c T locs cells slots) (hx : p.tables.exec = Jvm.exec) (hZ : Z.Warmed39 s.vm) (hown : s.vm.findClass own = some m.cls) (w1 : (Cond.methodLink own index y).before a0 Z = true) (w2 : (Cond.declares y).before a0 Z = true) (w3 : (Cond.selects C y y).before a0 Z = true) (w4 : (Cond.instanceMethod y).before a0 Z = true) (w5 : (Cond.code y bytes maxL ret).before a0 Z = true) (w6 : (Cond.initialized y.cls).before a0 Z = true) (hy : y.cls ≠ "java/lang/invoke/MethodHandle" ∧ y.cls ≠ "java/lang/invoke/VarHandle") (eT : T.heap = h) (E : Exa Z h b C) (hM : Met l Z [] y bytes maxL ret rm as' h Q)
    (hg : g.method = m) (hsize : g.locals.size = c.maxLocals) (hlen : ∀ sig, parseMethodDescriptor y.desc = some sig → argsL.length = sig.parameters.length) (hst : g.stack = argsL.reverse ++ .ref b :: rest) (hW : 2 * g.monitorRoom + (rest.map fun v => v.category).sum ≤ W) (hd : decode c.code g.pc = .ok (.invokevirtual index, 3)) (has : (.ref b :: argsL).toArray = as') (hfit : rm.frames + 1 ≤ R.frames ∧ W + (maxL + 11) + rm.locals ≤ R.locals ∧ cells + rm.cells ≤ R.cells ∧ slots + rm.slots ≤ R.slots) :
    ∃ T' v L, Stand p l e R s m args below meth c T' (locs ++ L) (cells + rm.cells) (slots + rm.slots) ∧ Q v T'.heap L ∧ Steps p.tables e below (T.setTop g) (T'.setTop { g with pc := g.pc + 3, stack := v.toList ++ rest }) := by
  obtain ⟨cq, kq, qa, qb, qc⟩ := isOf hZ eT E
  obtain ⟨v, vm1, ⟨T', L', k', n'⟩, -, X', ⟨Lc, hQ, l', y', z'⟩, st⟩ := X.virtualBack hx hown (mvT hZ w1) (mvT hZ w2) (notFace_of_selects (args := #[]) (mvT hZ w3)) (mvT hZ w3) (mvT hZ w4) hy (backOf hM hZ w5 w6 hfit.1 hfit.2.1) qa qc hg hsize (Steps.refl _) hlen hst hW hd (fun _ _ => ⟨has, eT, hfit.2.2⟩)
  dsimp only [Pt.U, Pt.locs, Pt.cells, Pt.slots] at X' l' y' z' st hQ
  subst l' y' z'
  exact ⟨T', v, Lc, X', hQ, st⟩
theorem own_ci {p : Program} {l : Launch} {e : Env} {R : Room} {s : State} {m : MethodId} {args : Array Value} {below : List Frame} {meth : Method} {c : Code} {T : State} {locs : List Loc} {cells slots : Nat} {Z : State} {a0 : Array Value} {h : Heap} {own : String} {index : Nat} {y : MethodName} {bytes : ByteArray} {maxL : Nat}  {rm : Room} {as' : Array Value} {Q : Option Value → Heap → List Loc → Prop} {b : Addr} {W : Nat} {argsL rest : List Value} {g : JFrame} (X : Stand p l e R s m args below meth c T locs cells slots) (hx : p.tables.exec = Jvm.exec) (hZ : Z.Warmed39 s.vm) (hown : s.vm.findClass own = some m.cls) (h1 : y.name = "<init>") (w1 : (Cond.methodLink own index y).before a0 Z = true) (w2 : (Cond.instanceMethod y).before a0 Z = true) (w5 : (Cond.code y bytes maxL none).before a0 Z = true) (w6 : (Cond.initialized y.cls).before a0 Z = true) (hy : y.cls ≠ "java/lang/invoke/MethodHandle" ∧ y.cls ≠ "java/lang/invoke/VarHandle") (eT : T.heap = h)  (hM : Met l Z [] y bytes maxL none rm as' h Q)
    (hg : g.method = m) (hsize : g.locals.size = c.maxLocals) (hlen : ∀ sig, parseMethodDescriptor y.desc = some sig → argsL.length = sig.parameters.length) (hst : g.stack = argsL.reverse ++ .ref b :: rest) (hW : 2 * g.monitorRoom + (rest.map fun v => v.category).sum ≤ W) (hd : decode c.code g.pc = .ok (.invokespecial index, 3)) (has : (.ref b :: argsL).toArray = as') (hfit : rm.frames + 1 ≤ R.frames ∧ W + (maxL + 11) + rm.locals ≤ R.locals ∧ cells + rm.cells ≤ R.cells ∧ slots + rm.slots ≤ R.slots) :
    ∃ T' v L, Stand p l e R s m args below meth c T' (locs ++ L) (cells + rm.cells) (slots + rm.slots) ∧ Q v T'.heap L ∧ Steps p.tables e below (T.setTop g) (T'.setTop { g with pc := g.pc + 3, stack := v.toList ++ rest }) := by
  obtain ⟨v, vm1, ⟨T', L', k', n'⟩, -, X', ⟨Lc, hQ, l', y', z'⟩, st⟩ := X.specialBack hx h1 hown (mvT hZ w1) (mvT hZ w2) (mvT hZ w5) hy (backOf hM hZ w5 w6 hfit.1 hfit.2.1) hg hsize (Steps.refl _) (a := b) hlen hst hW hd (fun _ _ => ⟨has, eT, hfit.2.2⟩)
  dsimp only [Pt.U, Pt.locs, Pt.cells, Pt.slots] at X' l' y' z' st hQ
  subst l' y' z'
  exact ⟨T', v, Lc, X', hQ, st⟩
theorem own_cn {p : Program} {l : Launch} {e : Env} {R : Room} {s : State} {m : MethodId} {args : Array Value} {below : List Frame} {meth : Method} {c : Code} {T : State} {locs : List Loc} {cells slots : Nat} {Z : State} {a0 : Array Value} {h : Heap} {own : String} {index : Nat} {y : MethodName} {bytes : ByteArray} {maxL : Nat}  {rm : Room} {as' : Array Value} {Q : Option Value → Heap → List Loc → Prop} {b : Addr} {W : Nat} {argsL rest : List Value} {g : JFrame} {host : String} (X : Stand p l e R s m args below meth c T locs cells slots) (hx : p.tables.exec = Jvm.exec) (hZ : Z.Warmed39 s.vm) (hown : s.vm.findClass own = some m.cls) (h1 : y.name = "<init>") (w1 : (Cond.methodLinkNest own index y host).before a0 Z = true) (w2 : (Cond.instanceMethod y).before a0 Z = true) (w5 : (Cond.code y bytes maxL none).before a0 Z = true) (w6 : (Cond.initialized y.cls).before a0 Z = true) (hy : y.cls ≠ "java/lang/invoke/MethodHandle" ∧ y.cls ≠ "java/lang/invoke/VarHandle") (eT : T.heap = h)  (hM : Met l Z [] y bytes maxL none rm as' h Q)
    (hg : g.method = m) (hsize : g.locals.size = c.maxLocals) (hlen : ∀ sig, parseMethodDescriptor y.desc = some sig → argsL.length = sig.parameters.length) (hst : g.stack = argsL.reverse ++ .ref b :: rest) (hW : 2 * g.monitorRoom + (rest.map fun v => v.category).sum ≤ W) (hd : decode c.code g.pc = .ok (.invokespecial index, 3)) (has : (.ref b :: argsL).toArray = as') (hfit : rm.frames + 1 ≤ R.frames ∧ W + (maxL + 11) + rm.locals ≤ R.locals ∧ cells + rm.cells ≤ R.cells ∧ slots + rm.slots ≤ R.slots) :
    ∃ T' v L, Stand p l e R s m args below meth c T' (locs ++ L) (cells + rm.cells) (slots + rm.slots) ∧ Q v T'.heap L ∧ Steps p.tables e below (T.setTop g) (T'.setTop { g with pc := g.pc + 3, stack := v.toList ++ rest }) := by
  obtain ⟨v, vm1, ⟨T', L', k', n'⟩, -, X', ⟨Lc, hQ, l', y', z'⟩, st⟩ := X.specialBackNest hx h1 hown (own_mvNest hZ w1) (mvT hZ w2) (mvT hZ w5) hy (backOf hM hZ w5 w6 hfit.1 hfit.2.1) hg hsize (Steps.refl _) (a := b) hlen hst hW hd (fun _ _ => ⟨has, eT, hfit.2.2⟩)
  dsimp only [Pt.U, Pt.locs, Pt.cells, Pt.slots] at X' l' y' z' st hQ
  subst l' y' z'
  exact ⟨T', v, Lc, X', hQ, st⟩
theorem own_cp {p : Program} {l : Launch} {e : Env} {R : Room} {s : State} {m : MethodId} {args : Array Value} {below : List Frame} {meth : Method} {c : Code} {T : State} {locs : List Loc} {cells slots : Nat} {Z : State} {a0 : Array Value} {h : Heap} {own : String} {index : Nat} {y : MethodName} {bytes : ByteArray} {maxL : Nat} {ret : Option FieldType} {rm : Room} {as' : Array Value} {Q : Option Value → Heap → List Loc → Prop} {b : Addr} {W : Nat} {argsL rest : List Value} {g : JFrame} (X : Stand p l e R s m args below meth c T locs cells slots) (hx : p.tables.exec = Jvm.exec) (hZ : Z.Warmed39 s.vm) (hown : s.vm.findClass own = some m.cls) (w1 : (Cond.methodLink own index y).before a0 Z = true) (w2 : (Cond.instanceMethod y).before a0 Z = true) (w3 : (Cond.selects y.cls y y).before a0 Z = true) (w4 : (Cond.privateMethod y).before a0 Z = true) (w5 : (Cond.code y bytes maxL ret).before a0 Z = true) (w6 : (Cond.initialized y.cls).before a0 Z = true) (hy : y.cls ≠ "java/lang/invoke/MethodHandle" ∧ y.cls ≠ "java/lang/invoke/VarHandle") (eT : T.heap = h) (E : Exa Z h b y.cls) (hM : Met l Z [] y bytes maxL ret rm as' h Q)
    (hg : g.method = m) (hsize : g.locals.size = c.maxLocals) (hlen : ∀ sig, parseMethodDescriptor y.desc = some sig → argsL.length = sig.parameters.length) (hst : g.stack = argsL.reverse ++ .ref b :: rest) (hW : 2 * g.monitorRoom + (rest.map fun v => v.category).sum ≤ W) (hd : decode c.code g.pc = .ok (.invokevirtual index, 3)) (has : (.ref b :: argsL).toArray = as') (hfit : rm.frames + 1 ≤ R.frames ∧ W + (maxL + 11) + rm.locals ≤ R.locals ∧ cells + rm.cells ≤ R.cells ∧ slots + rm.slots ≤ R.slots) :
    ∃ T' v L, Stand p l e R s m args below meth c T' (locs ++ L) (cells + rm.cells) (slots + rm.slots) ∧ Q v T'.heap L ∧ Steps p.tables e below (T.setTop g) (T'.setTop { g with pc := g.pc + 3, stack := v.toList ++ rest }) := by
  obtain ⟨cq, q, q'⟩ := E.cell
  obtain ⟨v, vm1, ⟨T', L', k', n'⟩, -, X', ⟨Lc, hQ, l', y', z'⟩, st⟩ := X.privateBack hx hown (mvT hZ w1) (mvT hZ w2) (mvT hZ w3) (Cond.privateMethod_at (mvP hZ w4 (args := #[]))) (mvT hZ w5) hy (backOf hM hZ w5 w6 hfit.1 hfit.2.1) hg hsize (Steps.refl _) (a := b) (by rw [eT]; exact q) q' hlen hst hW hd (fun _ _ => ⟨has, eT, hfit.2.2⟩)
  dsimp only [Pt.U, Pt.locs, Pt.cells, Pt.slots] at X' l' y' z' st hQ
  subst l' y' z'
  exact ⟨T', v, Lc, X', hQ, st⟩
theorem own_cf {p : Program} {l : Launch} {e : Env} {R : Room} {s : State} {m : MethodId} {args : Array Value} {below : List Frame} {meth : Method} {c : Code} {T : State} {locs : List Loc} {cells slots : Nat} {Z : State} {a0 : Array Value} {h : Heap} {own : String} {index : Nat} {y z : MethodName} {bytes : ByteArray} {maxL : Nat} {ret : Option FieldType} {rm : Room} {as' : Array Value} {Q : Option Value → Heap → List Loc → Prop} {b : Addr} {W : Nat} {argsL rest : List Value} {g : JFrame} {C : String} {count : Nat} (X : Stand p l e R s m args below meth c T locs cells slots) (hx : p.tables.exec = Jvm.exec) (hZ : Z.Warmed39 s.vm) (hown : s.vm.findClass own = some m.cls) (w1 : (Cond.methodLink own index y).before a0 Z = true) (w2 : (Cond.declares y).before a0 Z = true) (w7 : (Cond.interfaceMethod y.cls y.cls y.name y.desc).before a0 Z = true) (w3 : (Cond.selects C y z).before a0 Z = true) (w4 : (Cond.instanceMethod z).before a0 Z = true) (w8 : (Cond.publicMethod z).before a0 Z = true) (w9 : (Cond.unhidden C y.name y.desc).before a0 Z = true) (w10 : (Cond.castable C y.cls).before a0 Z = true) (w5 : (Cond.code z bytes maxL ret).before a0 Z = true) (w6 : (Cond.initialized z.cls).before a0 Z = true) (hy : y.cls ≠ "java/lang/invoke/MethodHandle" ∧ y.cls ≠ "java/lang/invoke/VarHandle") (eT : T.heap = h) (E : Exa Z h b C) (hM : Met l Z [] z bytes maxL ret rm as' h Q)
    (hg : g.method = m) (hsize : g.locals.size = c.maxLocals) (hlen : ∀ sig, parseMethodDescriptor y.desc = some sig → argsL.length = sig.parameters.length) (hst : g.stack = argsL.reverse ++ .ref b :: rest) (hW : 2 * g.monitorRoom + (rest.map fun v => v.category).sum ≤ W) (hd : decode c.code g.pc = .ok (.invokeinterface index count, 5)) (has : (.ref b :: argsL).toArray = as') (hfit : rm.frames + 1 ≤ R.frames ∧ W + (maxL + 11) + rm.locals ≤ R.locals ∧ cells + rm.cells ≤ R.cells ∧ slots + rm.slots ≤ R.slots) :
    ∃ T' v L, Stand p l e R s m args below meth c T' (locs ++ L) (cells + rm.cells) (slots + rm.slots) ∧ Q v T'.heap L ∧ Steps p.tables e below (T.setTop g) (T'.setTop { g with pc := g.pc + 5, stack := v.toList ++ rest }) := by
  obtain ⟨cq, kq, qa, qb, qc⟩ := isOf hZ eT E
  obtain ⟨v, vm1, ⟨T', L', k', n'⟩, -, X', ⟨Lc, hQ, l', y', z'⟩, st⟩ := X.interfaceBack hx hown (mvT hZ w1) (mvT hZ w2) (mvT hZ w7 (by simp [Cond.onTables, Cond.keepsFace, Cond.keeps, Cond.steady, Cond.faceAtom, hy.1, hy.2])) (mvT hZ w3) (mvT hZ w4) (mvT hZ w8) (mvT hZ w9) (mvT hZ w10) hy (backOf hM hZ w5 w6 hfit.1 hfit.2.1) qa qb qc hg hsize (Steps.refl _) hlen hst hW hd (fun _ _ => ⟨has, eT, hfit.2.2⟩)
  dsimp only [Pt.U, Pt.locs, Pt.cells, Pt.slots] at X' l' y' z' st hQ
  subst l' y' z'
  exact ⟨T', v, Lc, X', hQ, st⟩
theorem Go.cps {p : Program} {e : Env} {below : List Frame} {s : State} {Q : Option Value → Heap → List Loc → Prop} {C S : Nat} {t : State} {A : State → List Loc → Prop} {B : Option Value → State → List Loc → Prop} {N : State → Option Value → State} (h : ∃ T' v L, A T' L ∧ B v T' L ∧ Steps p.tables e below t (N T' v)) (k : ∀ T' v L, A T' L → B v T' L → Go p e below s Q C S (N T' v)) : Go p e below s Q C S t := by
  obtain ⟨T', v, L, h1, h2, h3⟩ := h
  exact Go.by h3 (k T' v L h1 h2)
theorem GoW.cps {p : Program} {e : Env} {below : List Frame} {s : State} {Q : Option Value → Heap → List Loc → Prop} {C S : Nat} {t : State} {A : State → List Loc → Prop} {B : Option Value → State → List Loc → Prop} {N : State → Option Value → State} (h : ∃ T' v L, A T' L ∧ B v T' L ∧ Steps p.tables e below t (N T' v)) (k : ∀ T' v L, A T' L → B v T' L → GoW p e below s Q C S (N T' v)) : GoW p e below s Q C S t := by
  obtain ⟨T', v, L, h1, h2, h3⟩ := h
  exact GoW.by h3 (k T' v L h1 h2)
theorem mI0 {x0 : Addr} {r : List Addr} : x0 ∈ x0 :: r := List.mem_of_getElem? (i := 0) rfl
theorem mI1 {x0 x1 : Addr} {r : List Addr} : x1 ∈ x0 :: x1 :: r := List.mem_of_getElem? (i := 1) rfl
theorem mI2 {x0 x1 x2 : Addr} {r : List Addr} : x2 ∈ x0 :: x1 :: x2 :: r := List.mem_of_getElem? (i := 2) rfl
theorem mI3 {x0 x1 x2 x3 : Addr} {r : List Addr} : x3 ∈ x0 :: x1 :: x2 :: x3 :: r := List.mem_of_getElem? (i := 3) rfl
theorem mI4 {x0 x1 x2 x3 x4 : Addr} {r : List Addr} : x4 ∈ x0 :: x1 :: x2 :: x3 :: x4 :: r := List.mem_of_getElem? (i := 4) rfl
theorem mI5 {x0 x1 x2 x3 x4 x5 : Addr} {r : List Addr} : x5 ∈ x0 :: x1 :: x2 :: x3 :: x4 :: x5 :: r := List.mem_of_getElem? (i := 5) rfl
theorem own_z0 {Z : State} {n0 : Nat} {h : Heap} (O : Old Z n0 h) : n0 ≤ h.size := O.1 ▸ O.2.1
end Jvm.RoadKit
namespace Jvm.Pilot.@@N@@
open Jvm Jvm.ClassFile Sem Op Lib Jvm.Free Jvm.Stand Jvm.LawKit Jvm.RoadKit Bundle Jvm.Pilot.@@N@@.Jvm.D
set_option maxRecDepth 65536
set_option maxHeartbeats 40000000
section OwnJdk
variable {p : Program} {l : Launch} {e : Env} {R : Room} {s : State} {m : MethodId} {args : Array Value} {below : List Frame} {meth : Method} {c : Code} {T : State} {locs : List Loc} {cells slots : Nat} {Z : State} {h : Heap} {a : Addr}
/-- own: the Class object of C is made, at mr -/
def MirM (Z : State) (C : String) (mr : Addr) : Prop := ∃ (c : ClassId) (k : Class), Z.vm.findClass C = some c ∧ Z.vm.classes[c]? = some k ∧ k.mirror = some mr
theorem own_gcls (X : Stand p l e R s m args below meth c T locs cells slots) (hx : p.tables.exec = Jvm.exec) (hZ : Z.Warmed39 s.vm) {a0 : Array Value} {own C : String} {index : Nat} (hown : s.vm.findClass own = some m.cls)
    (w1 : (Jvm.Cond.methodLink own index ⟨"java/lang/Object", "getClass", "()Ljava/lang/Class;"⟩).before a0 Z = true) (w2 : (Jvm.Cond.declares ⟨"java/lang/Object", "getClass", "()Ljava/lang/Class;"⟩).before a0 Z = true) (w4 : (Jvm.Cond.selects C ⟨"java/lang/Object", "getClass", "()Ljava/lang/Class;"⟩ ⟨"java/lang/Object", "getClass", "()Ljava/lang/Class;"⟩).before a0 Z = true)
    (w5 : (Jvm.Cond.instanceMethod ⟨"java/lang/Object", "getClass", "()Ljava/lang/Class;"⟩).before a0 Z = true) (w6 : (Jvm.Cond.native ⟨"java/lang/Object", "getClass", "()Ljava/lang/Class;"⟩).before a0 Z = true) (eT : T.heap = h) (E : Exa Z h a C) {mr : Addr} (M : MirM Z C mr)
    {g : JFrame} (hg : g.method = m) (hsize : g.locals.size = c.maxLocals) {rest : List Value} (hs : g.stack = .ref a :: rest) (hd : decode c.code g.pc = .ok (.invokevirtual index, 3)) (hf : 1 ≤ R.frames) {W : Nat} (hW : 2 * g.monitorRoom + (rest.map fun v => v.category).sum ≤ W) (hl : W + 14 ≤ R.locals) :
    ∃ T', Stand p l e R s m args below meth c T' locs cells slots ∧ T'.heap = h ∧ ∀ target, Steps p.tables e below (T'.setTop { g with pc := g.pc + 3, stack := .ref mr :: rest }) target → Steps p.tables e below (T.setTop g) target := by
  obtain ⟨cB, kB, i1, i2, i3⟩ := isOf hZ eT E
  obtain ⟨cc, kc, m1, m2, m3⟩ := M
  rw [hZ.alike.findClass] at i1
  cases i1.symm.trans m1
  obtain ⟨k', q, ek⟩ := hZ.alike.2.2 _ _ m2
  obtain ⟨vm', X', st⟩ := X.getClassOf hx hown (mvT hZ w1) (mvT hZ w2) (notFace_of_selects (args := #[]) (mvT hZ w4)) (mvT hZ w4) (mvT hZ w5) (mvT hZ w6) (by rw [hZ.alike.findClass]; exact m1) i3 q (by rw [ek]; exact m3) hg hsize hs hd hf (by have e14 : nativeFrameWords "java/lang/Object" "getClass" 1 + 11 = 14 := (by decide); omega)
  exact ⟨_, X', eT, st⟩
theorem own_ldcM (X : Stand p l e R s m args below meth c T locs cells slots) (hx : p.tables.exec = Jvm.exec) (hZ : Z.Warmed39 s.vm) {a0 : Array Value} {own C : String} {index : Nat} (hown : s.vm.findClass own = some m.cls) (w : (Jvm.Cond.classLink own index C).before a0 Z = true) (eT : T.heap = h) {mr : Addr} (M : MirM Z C mr)
    {g : JFrame} (hg : g.method = m) (hd : decode c.code g.pc = .ok (.ldc index, 2)) :
    ∃ T', Stand p l e R s m args below meth c T' locs cells slots ∧ T'.heap = h ∧ ∀ target, Steps p.tables e below (T'.setTop { g with pc := g.pc + 2, stack := .ref mr :: g.stack }) target → Steps p.tables e below (T.setTop g) target := by
  obtain ⟨cc, kc, m1, m2, m3⟩ := M
  obtain ⟨k', q, ek⟩ := hZ.alike.2.2 _ _ m2
  have ev : (Term.mirror C).eval args s none [] s = some (.ref mr) := by
    have f1 : s.vm.findClass C = some cc := by rw [hZ.alike.findClass]; exact m1
    have f2 : k'.mirror = some mr := by rw [ek]; exact m3
    simp [Term.eval, f1, q, f2]
  obtain ⟨vm', X', st⟩ := X.ldcMirror hx hown (mv hZ w) ev hg hd
  exact ⟨_, X', eT, st⟩
/-- own: what holds of one method's class holds of another's of the same class -/
theorem own_nf {y z : MethodName} (h : NotFace s y) (hy : y.cls = z.cls) (wy : (Jvm.Cond.instanceMethod y).before args s = true) : NotFace s z := fun r0 h0 => by
  obtain ⟨my, methy, ny, -⟩ := Cond.instanceMethod_spec wy
  obtain ⟨kr, q1, q2⟩ := h my ny
  have f1 := findClass_of_methodNamed ny
  have f2 := findClass_of_methodNamed h0
  rw [← hy] at f2
  have e : my.cls = r0.cls := Option.some.inj (f1.symm.trans f2)
  exact ⟨kr, by rw [← e]; exact q1, q2⟩
end OwnJdk
def own_t1 (k0 : Int32) : Int32 := if k0 = 0 then 0 else 1
def own_t2 (k0 k1 : Int32) : Int32 := (if k0 = 0 then 0 else 1) + (if k1 = 0 then 0 else 1)
def own_t3 (k0 k1 k2 : Int32) : Int32 := (if k0 = 0 then 0 else 1) + (if k1 = 0 then 0 else 1) + (if k2 = 0 then 0 else 1)
theorem own_pos {k : Int32} (h : (0 : Int32) < k) : ¬ k = 0 := fun q => by
  subst q
  exact absurd h (by decide)
theorem own_npos {k : Int32} (h : ¬ ((0 : Int32) < k)) (h0 : ¬ k < 0) : k = 0 := by
  rw [Int32.lt_iff_toInt_lt] at h h0
  have e0 : (0 : Int32).toInt = 0 := rfl
  apply Int32.toInt_inj.mp
  omega
theorem own_le2 {k : Int32} (h0 : ¬ k < 0) (h2 : k < (3 : Int32)) : k = (0 : Int32) ∨ k = (1 : Int32) ∨ k = (2 : Int32) := by
  rw [Int32.lt_iff_toInt_lt] at h0 h2
  have e0 : (0 : Int32).toInt = 0 := rfl
  have e1 : (1 : Int32).toInt = 1 := rfl
  have e2 : (2 : Int32).toInt = 2 := rfl
  have e3 : (3 : Int32).toInt = 3 := rfl
  simp only [← Int32.toInt_inj, e0, e1, e2]
  omega
theorem own_cap2 {k : Int32} (h0 : ¬ k < 0) (h2 : k < (3 : Int32)) : k.toNatClampNeg ≤ 2 := by
  rcases own_le2 h0 h2 with rfl | rfl | rfl <;> decide
theorem own_rem (s : Int32) : ¬ ((s &&& (2147483647 : Int32)) % (3 : Int32)) < 0 ∧ ((s &&& (2147483647 : Int32)) % (3 : Int32)) < (3 : Int32) := by
  have h := c_and s 2147483647 (by decide)
  have r := (c_iremV (s &&& (2147483647 : Int32)) 3).1 h.1 (by decide)
  have e0 : (0 : Int32).toInt = 0 := rfl
  have e3 : (3 : Int32).toInt = 3 := rfl
  rw [Int32.lt_iff_toInt_lt, Int32.lt_iff_toInt_lt]
  omega
theorem own_and3 (p : Int32) : (p &&& (3 : Int32)) = (0 : Int32) ∨ (p &&& (3 : Int32)) = (1 : Int32) ∨ (p &&& (3 : Int32)) = (2 : Int32) ∨ (p &&& (3 : Int32)) = (3 : Int32) := by
  have h := c_and p 3 (by decide)
  have e0 : (0 : Int32).toInt = 0 := rfl
  have e1 : (1 : Int32).toInt = 1 := rfl
  have e2 : (2 : Int32).toInt = 2 := rfl
  have e3 : (3 : Int32).toInt = 3 := rfl
  simp only [← Int32.toInt_inj, e0, e1, e2, e3]
  omega
theorem own_arv0 {s : State} {a : Addr} {c : Cell} {ty : FieldType} (A : Arr s s.heap a c ty) (h : c.slots.size = (0 : Int32).toNatClampNeg ∧ ¬ (0 : Int32) < 0) : Arv s s.heap a c.cls ty (0 : Int32) [] .null := ⟨c, A, rfl, h.1, h.2, fun k hk => absurd hk (by rw [h.1]; exact Nat.not_lt_zero _), fun k hk => absurd hk (by rw [h.1]; exact Nat.not_lt_zero _)⟩
abbrev sq0 : String := "java/util/ArrayList"
abbrev sq1 : String := "java/lang/Object"
abbrev sq2 : String := "[Ljava/lang/Object;"
abbrev sq3 : String := "java/util/List"
abbrev sq4 : String := "com/example/count_calibrated_demand/countcalibrateddemand/Plan"
abbrev sq5 : String := "com/example/count_calibrated_demand/countcalibrateddemand/LegTimes"
abbrev sq6 : String := "java/util/ImmutableCollections$List12"
abbrev sq7 : String := "java/util/ImmutableCollections$ListN"
abbrev sq8 : String := "com/example/count_calibrated_demand/countcalibrateddemand/Activity"
abbrev sq9 : String := "com/example/count_calibrated_demand/countcalibrateddemand/Person"
abbrev sq10 : String := "elementData"
abbrev sq11 : String := "Ljava/util/List;"
abbrev sq12 : String := "Ljava/lang/Object;"
abbrev sq13 : String := "java/util/AbstractList"
abbrev sq14 : String := "java/util/ImmutableCollections"
abbrev sq15 : String := "java/util/OptionalDouble"
abbrev sq16 : String := "(I)Ljava/lang/Object;"
abbrev sq17 : String := "java/lang/String"
abbrev sq18 : String := "com/example/count_calibrated_demand/countcalibrateddemand/Leg"
abbrev sq19 : String := "java/util/Arrays"
abbrev sq20 : String := "()[Ljava/lang/Object;"
abbrev sq21 : String := "com/example/count_calibrated_demand/countcalibrateddemand/LegTimesPersonsTravellingPinLaw"
abbrev sq22 : String := "Ljava/util/OptionalDouble;"
abbrev sq23 : String := "Ljava/lang/String;"
abbrev sq24 : String := "java/util/Objects"
abbrev sq25 : String := "()Ljava/util/List;"
abbrev sq26 : String := "java/util/Collection"
abbrev sq27 : String := "(Ljava/util/Collection;)Ljava/util/List;"
abbrev sq28 : String := "java/util/AbstractCollection"
abbrev sq29 : String := "([Ljava/lang/Object;)Ljava/util/List;"
abbrev sq30 : String := "DEFAULTCAPACITY_EMPTY_ELEMENTDATA"
abbrev sq31 : String := "(Ljava/lang/Object;[Ljava/lang/Object;I)V"
abbrev sq32 : String := "(Ljava/lang/Object;)Z"
abbrev sq33 : String := "com/example/count_calibrated_demand/countcalibrateddemand/Coordinates"
abbrev sq34 : String := "(I)[Ljava/lang/Object;"
abbrev sq35 : String := "java/util/ImmutableCollections$AbstractImmutableList"
abbrev sq36 : String := "Ljava/util/ImmutableCollections$ListN;"
abbrev sq37 : String := "()Lcom/example/count_calibrated_demand/countcalibrateddemand/Plan;"
abbrev sq38 : String := "java/util/ImmutableCollections$AbstractImmutableCollection"
abbrev sq39 : String := "jdk/internal/util/Preconditions"
abbrev sq40 : String := "Lcom/example/count_calibrated_demand/countcalibrateddemand/Coordinates;"
abbrev sq41 : String := "(Ljava/lang/Object;)Ljava/lang/Object;"
abbrev sq42 : String := "(IILjava/util/function/BiFunction;)I"
abbrev sq43 : String := "([Ljava/lang/Object;ILjava/lang/Class;)[Ljava/lang/Object;"
abbrev sq44 : String := "([Ljava/lang/Object;I)[Ljava/lang/Object;"
abbrev sq45 : String := "(Ljava/util/List;Ljava/util/List;)V"
abbrev sq46 : String := "(Ljava/lang/String;IIILcom/example/count_calibrated_demand/countcalibrateddemand/Coordinates;)V"
abbrev sq47 : String := "(Ljava/lang/Object;Ljava/lang/Object;)V"
abbrev sq48 : String := "()Ljava/util/OptionalDouble;"
abbrev sq49 : String := "(Ljava/lang/String;Ljava/util/List;I)V"
theorem mAt {l : List Jvm.Cond} {d : Jvm.Cond} (i : Nat) (h : l[i]? = some d) : d ∈ l := List.mem_of_getElem? h
abbrev SI (x : Int32) : Slot := .val (.int x)
abbrev SR (x : Addr) : Slot := .val (.ref x)
abbrev zc0 : ByteArray := prog_32_method_1_code
abbrev zc1 : ByteArray := prog_46_method_1_code
abbrev zc2 : ByteArray := jdk_56_method_4_code
abbrev zc3 : ByteArray := prog_32_method_6_code
abbrev zc4 : ByteArray := jdk_40_method_47_code
abbrev zc5 : ByteArray := prog_45_method_1_code
abbrev zc6 : ByteArray := prog_1_method_2_code
abbrev zc7 : ByteArray := jdk_38_method_6_code
abbrev zc8 : ByteArray := jdk_65_method_120_code
abbrev zc9 : ByteArray := jdk_38_method_24_code
abbrev zc10 : ByteArray := jdk_38_method_25_code
abbrev zc11 : ByteArray := jdk_56_method_3_code
abbrev zc12 : ByteArray := jdk_65_method_103_code
abbrev zc13 : ByteArray := jdk_44_method_2_code
abbrev zc14 : ByteArray := jdk_44_method_1_code
abbrev zc15 : ByteArray := jdk_38_method_20_code
abbrev zc16 : ByteArray := jdk_45_method_1_code
abbrev zc17 : ByteArray := prog_1_method_1_code
abbrev zc18 : ByteArray := jdk_44_method_3_code
abbrev zc19 : ByteArray := jdk_38_method_7_code
abbrev zc20 : ByteArray := jdk_38_method_9_code
abbrev zc21 : ByteArray := jdk_41_method_11_code
abbrev zc22 : ByteArray := prog_45_method_5_code
abbrev zc23 : ByteArray := prog_31_method_1_code
abbrev zc24 : ByteArray := jdk_39_method_1_code
abbrev zc25 : ByteArray := jdk_38_method_2_code
abbrev zc26 : ByteArray := jdk_29_method_65_code
abbrev zc27 : ByteArray := jdk_65_method_119_code
abbrev zc28 : ByteArray := jdk_38_method_16_code
abbrev zc29 : ByteArray := jdk_31_method_17_code
abbrev zc30 : ByteArray := jdk_38_method_18_code
abbrev zc31 : ByteArray := jdk_29_method_69_code
abbrev zc32 : ByteArray := jdk_45_method_4_code
abbrev zc33 : ByteArray := jdk_31_method_10_code
abbrev zc34 : ByteArray := jdk_45_method_3_code
abbrev zc35 : ByteArray := jdk_30_method_1_code
abbrev zc36 : ByteArray := jdk_22_method_1_code
abbrev zc37 : ByteArray := jdk_38_method_8_code
abbrev zc38 : ByteArray := prog_1_method_10_code
abbrev zc39 : ByteArray := jdk_47_method_1_code
abbrev zc40 : ByteArray := jdk_46_method_1_code
abbrev zc41 : ByteArray := jdk_40_method_48_code
abbrev zc42 : ByteArray := prog_46_method_4_code
abbrev mm0 : MethodName := ⟨"jdk/internal/util/Preconditions", "checkIndex", "(IILjava/util/function/BiFunction;)I"⟩
abbrev mm1 : MethodName := ⟨"java/util/Objects", "checkIndex", "(II)I"⟩
abbrev mm2 : MethodName := ⟨"java/util/ArrayList", "elementData", "(I)Ljava/lang/Object;"⟩
abbrev mm3 : MethodName := ⟨"java/util/ArrayList", "get", "(I)Ljava/lang/Object;"⟩
abbrev mm4 : MethodName := ⟨"java/util/ImmutableCollections", "listCopy", "(Ljava/util/Collection;)Ljava/util/List;"⟩
abbrev mm5 : MethodName := ⟨"java/util/List", "copyOf", "(Ljava/util/Collection;)Ljava/util/List;"⟩
abbrev mm6 : MethodName := ⟨"com/example/count_calibrated_demand/countcalibrateddemand/LegTimes", "<init>", "(Ljava/util/List;)V"⟩
abbrev mm7 : MethodName := ⟨"com/example/count_calibrated_demand/countcalibrateddemand/LegTimes", "personsTravelling", "()I"⟩
abbrev mm8 : MethodName := ⟨"java/util/ArrayList", "add", "(Ljava/lang/Object;[Ljava/lang/Object;I)V"⟩
abbrev mm9 : MethodName := ⟨"java/util/ArrayList", "add", "(Ljava/lang/Object;)Z"⟩
abbrev mm10 : MethodName := ⟨"java/lang/Math", "min", "(II)I"⟩
abbrev mm11 : MethodName := ⟨"java/util/Arrays", "copyOf", "([Ljava/lang/Object;ILjava/lang/Class;)[Ljava/lang/Object;"⟩
abbrev mm12 : MethodName := ⟨"java/util/Arrays", "copyOf", "([Ljava/lang/Object;I)[Ljava/lang/Object;"⟩
abbrev mm13 : MethodName := ⟨"java/util/ArrayList", "toArray", "()[Ljava/lang/Object;"⟩
abbrev mm14 : MethodName := ⟨"java/util/List", "of", "([Ljava/lang/Object;)Ljava/util/List;"⟩
abbrev mm15 : MethodName := ⟨"com/example/count_calibrated_demand/countcalibrateddemand/Plan", "<init>", "(Ljava/util/List;Ljava/util/List;)V"⟩
abbrev mm16 : MethodName := ⟨"java/util/ImmutableCollections$ListN", "get", "(I)Ljava/lang/Object;"⟩
abbrev mm17 : MethodName := ⟨"java/util/ArrayList", "isEmpty", "()Z"⟩
abbrev mm18 : MethodName := ⟨"java/util/ImmutableCollections$List12", "size", "()I"⟩
theorem tw5 : (Cond.initialized sq17) ∈ tables_1 := mAt 5 rfl
theorem tw6 : (Cond.instantiable sq17 4) ∈ tables_1 := mAt 6 rfl
theorem tw7 : (Cond.arrayClass FieldType.byte) ∈ tables_1 := mAt 7 rfl
theorem tw8 : (Cond.laysFinal sq17 sq17 "value" "[B") ∈ tables_1 := mAt 8 rfl
theorem tw9 : (Cond.laysFinal sq17 sq17 "coder" "B") ∈ tables_1 := mAt 9 rfl
theorem tw10 : (Cond.soleField sq17 "value") ∈ tables_1 := mAt 10 rfl
theorem tw11 : (Cond.soleField sq17 "coder") ∈ tables_1 := mAt 11 rfl
theorem own_wS {Z : State} {a0 : Array Value} (hw : ∀ d ∈ tables_1, d.before a0 Z = true) : ∀ a ∈ Bundle.stringAtoms, a.before a0 Z = true := by
  intro a ha
  simp only [Bundle.stringAtoms, List.mem_cons, List.not_mem_nil, or_false] at ha
  rcases ha with rfl | rfl | rfl | rfl | rfl | rfl | rfl
  · exact hw _ tw5
  · exact hw _ tw6
  · exact hw _ tw7
  · exact hw _ tw8
  · exact hw _ tw9
  · exact hw _ tw10
  · exact hw _ tw11
theorem d3_0 : decode zc35 0 = .ok (.aload_n 0, 1) := by decide +kernel
theorem d3_1 : decode zc35 1 = .ok (.invokespecial 1, 3) := by decide +kernel
theorem tw23 : (Cond.methodLink "java/lang/Record" 1 ⟨sq1, "<init>", "()V"⟩) ∈ tables_1 := mAt 23 rfl
theorem tw24 : (Cond.instanceMethod ⟨sq1, "<init>", "()V"⟩) ∈ tables_1 := mAt 24 rfl
theorem tw25 : (Cond.code ⟨sq1, "<init>", "()V"⟩ object_method_1_code 1 (Option.none : Option Jvm.ClassFile.FieldType)) ∈ tables_1 := mAt 25 rfl
theorem d3_4 : decode zc35 4 = .ok (.return_, 1) := by decide +kernel
theorem ef3 (m : MethodId) (x0 : Addr) : entryFrame m #[(.ref x0)] 1 = mkF m 0 #[SR x0] [] := by first | (simp [entryFrame, mkF, argsToLocals, Value.category]; done) | rfl
def Q3 (Z : State) (a0_ : Addr) (h0 : Heap) (n0 : Nat) (v : Option Value) (h : Heap) (L : List Loc) : Prop := v = none ∧ Fr n0 L ∧ h = h0
theorem pn3 : plainName "java/lang/Record" = true := by first | (simp [plainName, overriddenIn]; done) | decide +kernel
theorem rm3 (l : Launch) (Z : State) (a0 : Array Value) (hw : ∀ d ∈ tables_1, d.before a0 Z = true) (ws : List Jvm.Cond) (a0_ : Addr) (h0 : Heap) (n0 : Nat) (O0 : Old Z n0 h0) :
    Met l Z ws (⟨"java/lang/Record", "<init>", "()V"⟩ : MethodName) jdk_30_method_1_code 1 none (Rm 1 0 0 12) #[(.ref a0_)] h0 (Q3 Z a0_ h0 n0) := by
  refine Met.enter (L0 := #[SR a0_]) (plainFor_of_name pn3) (fun m => ef3 m a0_) ?_
  intro p e s m below meth c s₁ hx hby hml hown hnm hret hlk hZ X0 e0
  have N0 := Fr.nil n0
  have Z0 := own_z0 O0
  have K0 : Keep h0 h0 [] := Keep.refl h0 _
  refine Go.st (t' := s₁.setTop (mkF m 1 #[SR a0_] [(.ref a0_)])) (fun target kt => ?_) ?_
  · refine XS.aloadN X0.here hx rfl (hb hby d3_0) rfl rfl ?_
    exact kt
  obtain ⟨T10, X10, e10, st10⟩ := initO X0 hx hZ hown (hw _ tw23) (hw _ tw24) (hw _ tw25) e0 (g := (mkF m 1 #[SR a0_] [(.ref a0_)])) rfl (by rw [hml]; rfl) rfl (hb hby d3_1) (by decide) (W := 0) (by show 2 * 0 + _ ≤ _; exact Nat.le_of_eq rfl) (by decide)
  refine Go.st st10 ?_
  refine Go.ret X10 (v := none) (fun _ => rfl) hlk (fun fs hr => X10.returnOut hx hret (hb hby d3_4) hr) ?_ (by decide) (by decide)
  show Q3 Z a0_ h0 n0 _ T10.heap _
  rw [e10]
  exact ⟨rfl, N0, rfl⟩
theorem d8_0 : decode zc36 0 = .ok (.aload_n 0, 1) := by decide +kernel
theorem d8_1 : decode zc36 1 = .ok (.invokespecial 1, 3) := by decide +kernel
theorem tw63 : (Cond.methodLink sq28 1 ⟨sq1, "<init>", "()V"⟩) ∈ tables_1 := mAt 63 rfl
theorem d8_4 : decode zc36 4 = .ok (.return_, 1) := by decide +kernel
def Q8 (Z : State) (a0_ : Addr) (h0 : Heap) (n0 : Nat) (v : Option Value) (h : Heap) (L : List Loc) : Prop := v = none ∧ Fr n0 L ∧ h = h0
theorem pn7 : plainName "java/util/AbstractCollection" = true := by first | (simp [plainName, overriddenIn]; done) | decide +kernel
theorem rm8 (l : Launch) (Z : State) (a0 : Array Value) (hw : ∀ d ∈ tables_1, d.before a0 Z = true) (ws : List Jvm.Cond) (a0_ : Addr) (h0 : Heap) (n0 : Nat) (O0 : Old Z n0 h0) :
    Met l Z ws (⟨sq28, "<init>", "()V"⟩ : MethodName) jdk_22_method_1_code 1 none (Rm 1 0 0 12) #[(.ref a0_)] h0 (Q8 Z a0_ h0 n0) := by
  refine Met.enter (L0 := #[SR a0_]) (plainFor_of_name pn7) (fun m => ef3 m a0_) ?_
  intro p e s m below meth c s₁ hx hby hml hown hnm hret hlk hZ X0 e0
  have N0 := Fr.nil n0
  have Z0 := own_z0 O0
  have K0 : Keep h0 h0 [] := Keep.refl h0 _
  refine Go.st (t' := s₁.setTop (mkF m 1 #[SR a0_] [(.ref a0_)])) (fun target kt => ?_) ?_
  · refine XS.aloadN X0.here hx rfl (hb hby d8_0) rfl rfl ?_
    exact kt
  obtain ⟨T10, X10, e10, st10⟩ := initO X0 hx hZ hown (hw _ tw63) (hw _ tw24) (hw _ tw25) e0 (g := (mkF m 1 #[SR a0_] [(.ref a0_)])) rfl (by rw [hml]; rfl) rfl (hb hby d8_1) (by decide) (W := 0) (by show 2 * 0 + _ ≤ _; exact Nat.le_of_eq rfl) (by decide)
  refine Go.st st10 ?_
  refine Go.ret X10 (v := none) (fun _ => rfl) hlk (fun fs hr => X10.returnOut hx hret (hb hby d8_4) hr) ?_ (by decide) (by decide)
  show Q8 Z a0_ h0 n0 _ T10.heap _
  rw [e10]
  exact ⟨rfl, N0, rfl⟩
theorem d2_0 : decode zc6 0 = .ok (.aload_n 0, 1) := by decide +kernel
theorem d2_1 : decode zc6 1 = .ok (.invokespecial 1, 3) := by decide +kernel
theorem tw18 : (Cond.methodLink sq8 1 ⟨"java/lang/Record", "<init>", "()V"⟩) ∈ tables_1 := mAt 18 rfl
theorem tw22 : (Cond.code ⟨"java/lang/Record", "<init>", "()V"⟩ jdk_30_method_1_code 1 (Option.none : Option Jvm.ClassFile.FieldType)) ∈ tables_1 := mAt 22 rfl
theorem tw21 : (Cond.initialized "java/lang/Record") ∈ tables_1 := mAt 21 rfl
theorem pd0 : parseMethodDescriptor "()V" = some ⟨[], none⟩ := by decide +kernel
theorem tw19 : (Cond.instanceMethod ⟨"java/lang/Record", "<init>", "()V"⟩) ∈ tables_1 := mAt 19 rfl
theorem d2_4 : decode zc6 4 = .ok (.aload_n 0, 1) := by decide +kernel
theorem d2_5 : decode zc6 5 = .ok (.aload_n 1, 1) := by decide +kernel
theorem d2_6 : decode zc6 6 = .ok (.putfield 7, 3) := by decide +kernel
theorem tw26 : (Cond.fieldLink sq8 7 sq8 "type" sq23) ∈ tables_1 := mAt 26 rfl
theorem tw27 : (Cond.laysFinal sq8 sq8 "type" sq23) ∈ tables_1 := mAt 27 rfl
theorem tw2 : (Cond.instantiable sq8 5) ∈ tables_1 := mAt 2 rfl
theorem d2_9 : decode zc6 9 = .ok (.aload_n 0, 1) := by decide +kernel
theorem d2_10 : decode zc6 10 = .ok (.iload_n 2, 1) := by decide +kernel
theorem d2_11 : decode zc6 11 = .ok (.putfield 13, 3) := by decide +kernel
theorem tw28 : (Cond.fieldLink sq8 13 sq8 "link" "I") ∈ tables_1 := mAt 28 rfl
theorem tw29 : (Cond.laysFinal sq8 sq8 "link" "I") ∈ tables_1 := mAt 29 rfl
theorem d2_14 : decode zc6 14 = .ok (.aload_n 0, 1) := by decide +kernel
theorem d2_15 : decode zc6 15 = .ok (.iload_n 3, 1) := by decide +kernel
theorem d2_16 : decode zc6 16 = .ok (.putfield 17, 3) := by decide +kernel
theorem tw30 : (Cond.fieldLink sq8 17 sq8 "endTime" "I") ∈ tables_1 := mAt 30 rfl
theorem tw31 : (Cond.laysFinal sq8 sq8 "endTime" "I") ∈ tables_1 := mAt 31 rfl
theorem d2_19 : decode zc6 19 = .ok (.aload_n 0, 1) := by decide +kernel
theorem d2_20 : decode zc6 20 = .ok (.iload 4, 2) := by decide +kernel
theorem d2_22 : decode zc6 22 = .ok (.putfield 20, 3) := by decide +kernel
theorem tw32 : (Cond.fieldLink sq8 20 sq8 "maxDuration" "I") ∈ tables_1 := mAt 32 rfl
theorem tw33 : (Cond.laysFinal sq8 sq8 "maxDuration" "I") ∈ tables_1 := mAt 33 rfl
theorem d2_25 : decode zc6 25 = .ok (.aload_n 0, 1) := by decide +kernel
theorem d2_26 : decode zc6 26 = .ok (.aload 5, 2) := by decide +kernel
theorem d2_28 : decode zc6 28 = .ok (.putfield 23, 3) := by decide +kernel
theorem tw34 : (Cond.fieldLink sq8 23 sq8 "coordinates" sq40) ∈ tables_1 := mAt 34 rfl
theorem tw35 : (Cond.laysFinal sq8 sq8 "coordinates" sq40) ∈ tables_1 := mAt 35 rfl
theorem d2_31 : decode zc6 31 = .ok (.return_, 1) := by decide +kernel
theorem ef2 (m : MethodId) (x0 : Addr) (x1 : Addr) (x2 : Int32) (x3 : Int32) (x4 : Int32) : entryFrame m #[(.ref x0), (.ref x1), (.int x2), (.int x3), (.int x4), .null] 6 = mkF m 0 #[SR x0, SR x1, SI x2, SI x3, SI x4, .val .null] [] := by first | (simp [entryFrame, mkF, argsToLocals, Value.category]; done) | rfl
def Q2 (Z : State) (a0_ : Addr) (a1_ : Addr) (p2 : Int32) (p3 : Int32) (p4 : Int32) (h0 : Heap) (n0 : Nat) (v : Option Value) (h : Heap) (L : List Loc) : Prop := v = none ∧ Fr n0 L ∧ Keep h0 h [a0_] ∧ Exa Z h a0_ sq8 ∧ Fld Z h a0_ sq8 "endTime" "I" (.int p3)
theorem pn26 : plainName "com/example/count_calibrated_demand/countcalibrateddemand/Activity" = true := by first | (simp [plainName, overriddenIn]; done) | decide +kernel
theorem rm2 (l : Launch) (Z : State) (a0 : Array Value) (hw : ∀ d ∈ tables_1, d.before a0 Z = true) (ws : List Jvm.Cond) (a0_ : Addr) (a1_ : Addr) (p2 : Int32) (p3 : Int32) (p4 : Int32) (h0 : Heap) (n0 : Nat) (O0 : Old Z n0 h0) (E0 : Exa Z h0 a0_ sq8) (g0 : n0 ≤ a0_) (F_type : Fld Z h0 a0_ sq8 "type" sq23 .null) (F_link : Fld Z h0 a0_ sq8 "link" "I" (.int 0)) (F_endTime : Fld Z h0 a0_ sq8 "endTime" "I" (.int 0)) (F_maxDuration : Fld Z h0 a0_ sq8 "maxDuration" "I" (.int 0)) (F_coordinates : Fld Z h0 a0_ sq8 "coordinates" sq40 .null) :
    Met l Z ws (⟨sq8, "<init>", sq46⟩ : MethodName) prog_1_method_2_code 6 none (Rm 2 0 0 24) #[(.ref a0_), (.ref a1_), (.int p2), (.int p3), (.int p4), .null] h0 (Q2 Z a0_ a1_ p2 p3 p4 h0 n0) := by
  refine Met.enter (L0 := #[SR a0_, SR a1_, SI p2, SI p3, SI p4, .val .null]) (plainFor_of_name pn26) (fun m => ef2 m a0_ a1_ p2 p3 p4) ?_
  intro p e s m below meth c s₁ hx hby hml hown hnm hret hlk hZ X0 e0
  have N0 := Fr.nil n0
  have Z0 := own_z0 O0
  have K0 : Keep h0 h0 [a0_] := Keep.refl h0 _
  refine Go.st (t' := s₁.setTop (mkF m 1 #[SR a0_, SR a1_, SI p2, SI p3, SI p4, .val .null] [(.ref a0_)])) (fun target kt => ?_) ?_
  · refine XS.aloadN X0.here hx rfl (hb hby d2_0) rfl rfl ?_
    exact kt
  refine Go.cps (own_ci (W := 0) (b := a0_) (argsL := []) (rest := []) X0 hx hZ hown rfl (hw _ tw18) (hw _ tw19) (hw _ tw22) (hw _ tw21) (by decide) e0 (rm3 l Z a0 hw [] a0_ h0 n0 O0  ) rfl (by rw [hml]; rfl) (lenOf pd0 rfl) rfl (Nat.le_of_eq rfl) (hb hby d2_1) rfl (by decide)) ?_
  rintro T10 _ L10 X10 ⟨rfl, Nq10, eq10⟩
  have N10 := Fr.app N0 Nq10
  refine Go.st (t' := T10.setTop (mkF m 6 #[SR a0_, SR a1_, SI p2, SI p3, SI p4, .val .null] [(.ref a1_), (.ref a0_)])) (fun target kt => ?_) ?_
  · refine XS.aloadN X10.here hx rfl (hb hby d2_4) rfl rfl ?_
    refine XS.aloadN X10.here hx rfl (hb hby d2_5) rfl rfl ?_
    exact kt
  obtain ⟨T11, h11, X11, e11, W11, st11⟩ := putF X10 hx hZ hown (host := "") (Or.inl (hw _ tw26)) Via.refl eq10 F_type E0 (Or.inr ⟨(hw _ tw27), rfl, hnm⟩) (hw _ tw2) (ty := (.object sq17)) (by decide) rfl rfl (g := (mkF m 6 #[SR a0_, SR a1_, SI p2, SI p3, SI p4, .val .null] [(.ref a1_), (.ref a0_)])) rfl rfl (hb hby d2_6)
  have F12 : Fld Z h11 a0_ sq8 "type" sq23 (.ref a1_) := F_type.same W11
  have K13 := K0.wr W11 (Or.inl mI0)
  have O14 := O0.wr W11 g0
  have N11 := Fr.snoc X11 N10 g0
  refine Go.st st11 ?_
  refine Go.st (t' := T11.setTop (mkF m 11 #[SR a0_, SR a1_, SI p2, SI p3, SI p4, .val .null] [(.int p2), (.ref a0_)])) (fun target kt => ?_) ?_
  · refine XS.aloadN X11.here hx rfl (hb hby d2_9) rfl rfl ?_
    refine XS.iloadN X11.here hx rfl (hb hby d2_10) rfl ?_
    exact kt
  have c15 := F_link.other W11 (Or.inr (slot_ne (Or.inr (hw _ tw29)) (Or.inr (hw _ tw27)) (by decide) (t := .int) (t' := (.object sq17)) (by decide) (by decide)))
  have c16 := E0.keep K13
  obtain ⟨T17, h17, X17, e17, W17, st17⟩ := putF X11 hx hZ hown (host := "") (Or.inl (hw _ tw28)) Via.refl e11 c15 c16 (Or.inr ⟨(hw _ tw29), rfl, hnm⟩) (hw _ tw2) (ty := .int) (by decide) rfl rfl (g := (mkF m 11 #[SR a0_, SR a1_, SI p2, SI p3, SI p4, .val .null] [(.int p2), (.ref a0_)])) rfl rfl (hb hby d2_11)
  have F18 : Fld Z h17 a0_ sq8 "link" "I" (.int p2) := c15.same W17
  have K19 := K13.wr W17 (Or.inl mI0)
  have O20 := O14.wr W17 g0
  have N17 := Fr.snoc X17 N11 g0
  refine Go.st st17 ?_
  refine Go.st (t' := T17.setTop (mkF m 16 #[SR a0_, SR a1_, SI p2, SI p3, SI p4, .val .null] [(.int p3), (.ref a0_)])) (fun target kt => ?_) ?_
  · refine XS.aloadN X17.here hx rfl (hb hby d2_14) rfl rfl ?_
    refine XS.iloadN X17.here hx rfl (hb hby d2_15) rfl ?_
    exact kt
  have c21 := (F_endTime.other W11 (Or.inr (slot_ne (Or.inr (hw _ tw31)) (Or.inr (hw _ tw27)) (by decide) (t := .int) (t' := (.object sq17)) (by decide) (by decide)))).other W17 (Or.inr (slot_ne (Or.inr (hw _ tw31)) (Or.inr (hw _ tw29)) (by decide) (t := .int) (t' := .int) (by decide) (by decide)))
  have c22 := c16.wr W17
  obtain ⟨T23, h23, X23, e23, W23, st23⟩ := putF X17 hx hZ hown (host := "") (Or.inl (hw _ tw30)) Via.refl e17 c21 c22 (Or.inr ⟨(hw _ tw31), rfl, hnm⟩) (hw _ tw2) (ty := .int) (by decide) rfl rfl (g := (mkF m 16 #[SR a0_, SR a1_, SI p2, SI p3, SI p4, .val .null] [(.int p3), (.ref a0_)])) rfl rfl (hb hby d2_16)
  have F24 : Fld Z h23 a0_ sq8 "endTime" "I" (.int p3) := c21.same W23
  have K25 := K19.wr W23 (Or.inl mI0)
  have O26 := O20.wr W23 g0
  have N23 := Fr.snoc X23 N17 g0
  refine Go.st st23 ?_
  refine Go.st (t' := T23.setTop (mkF m 22 #[SR a0_, SR a1_, SI p2, SI p3, SI p4, .val .null] [(.int p4), (.ref a0_)])) (fun target kt => ?_) ?_
  · refine XS.aloadN X23.here hx rfl (hb hby d2_19) rfl rfl ?_
    refine XS.iload X23.here hx rfl (hb hby d2_20) rfl ?_
    exact kt
  have c27 := ((F_maxDuration.other W11 (Or.inr (slot_ne (Or.inr (hw _ tw33)) (Or.inr (hw _ tw27)) (by decide) (t := .int) (t' := (.object sq17)) (by decide) (by decide)))).other W17 (Or.inr (slot_ne (Or.inr (hw _ tw33)) (Or.inr (hw _ tw29)) (by decide) (t := .int) (t' := .int) (by decide) (by decide)))).other W23 (Or.inr (slot_ne (Or.inr (hw _ tw33)) (Or.inr (hw _ tw31)) (by decide) (t := .int) (t' := .int) (by decide) (by decide)))
  have c28 := c22.wr W23
  obtain ⟨T29, h29, X29, e29, W29, st29⟩ := putF X23 hx hZ hown (host := "") (Or.inl (hw _ tw32)) Via.refl e23 c27 c28 (Or.inr ⟨(hw _ tw33), rfl, hnm⟩) (hw _ tw2) (ty := .int) (by decide) rfl rfl (g := (mkF m 22 #[SR a0_, SR a1_, SI p2, SI p3, SI p4, .val .null] [(.int p4), (.ref a0_)])) rfl rfl (hb hby d2_22)
  have F30 : Fld Z h29 a0_ sq8 "maxDuration" "I" (.int p4) := c27.same W29
  have K31 := K25.wr W29 (Or.inl mI0)
  have O32 := O26.wr W29 g0
  have N29 := Fr.snoc X29 N23 g0
  refine Go.st st29 ?_
  refine Go.st (t' := T29.setTop (mkF m 28 #[SR a0_, SR a1_, SI p2, SI p3, SI p4, .val .null] [.null, (.ref a0_)])) (fun target kt => ?_) ?_
  · refine XS.aloadN X29.here hx rfl (hb hby d2_25) rfl rfl ?_
    refine XS.aload X29.here hx rfl (hb hby d2_26) rfl rfl ?_
    exact kt
  have c33 := (((F_coordinates.other W11 (Or.inr (slot_ne (Or.inr (hw _ tw35)) (Or.inr (hw _ tw27)) (by decide) (t := (.object sq33)) (t' := (.object sq17)) (by decide) (by decide)))).other W17 (Or.inr (slot_ne (Or.inr (hw _ tw35)) (Or.inr (hw _ tw29)) (by decide) (t := (.object sq33)) (t' := .int) (by decide) (by decide)))).other W23 (Or.inr (slot_ne (Or.inr (hw _ tw35)) (Or.inr (hw _ tw31)) (by decide) (t := (.object sq33)) (t' := .int) (by decide) (by decide)))).other W29 (Or.inr (slot_ne (Or.inr (hw _ tw35)) (Or.inr (hw _ tw33)) (by decide) (t := (.object sq33)) (t' := .int) (by decide) (by decide)))
  have c34 := c28.wr W29
  obtain ⟨T35, h35, X35, e35, W35, st35⟩ := putF X29 hx hZ hown (host := "") (Or.inl (hw _ tw34)) Via.refl e29 c33 c34 (Or.inr ⟨(hw _ tw35), rfl, hnm⟩) (hw _ tw2) (ty := (.object sq33)) (by decide) rfl rfl (g := (mkF m 28 #[SR a0_, SR a1_, SI p2, SI p3, SI p4, .val .null] [.null, (.ref a0_)])) rfl rfl (hb hby d2_28)
  have F36 : Fld Z h35 a0_ sq8 "coordinates" sq40 .null := c33.same W35
  have K37 := K31.wr W35 (Or.inl mI0)
  have O38 := O32.wr W35 g0
  have N35 := Fr.snoc X35 N29 g0
  refine Go.st st35 ?_
  have c39 := c34.wr W35
  have S_40 : Keep h23 h35 [a0_] := (((Keep.refl h23 [a0_]).wr W29 (Or.inl mI0)).wr W35 (Or.inl mI0))
  have c41 := (F24.other W29 (Or.inr (slot_ne (Or.inr (hw _ tw31)) (Or.inr (hw _ tw33)) (by decide) (t := .int) (t' := .int) (by decide) (by decide)))).other W35 (Or.inr (slot_ne (Or.inr (hw _ tw31)) (Or.inr (hw _ tw35)) (by decide) (t := .int) (t' := (.object sq33)) (by decide) (by decide)))
  refine Go.ret X35 (v := none) (fun _ => rfl) hlk (fun fs hr => X35.returnOut hx hret (hb hby d2_31) hr) ?_ (by decide) (by decide)
  show Q2 Z a0_ a1_ p2 p3 p4 h0 n0 _ T35.heap _
  rw [e35]
  exact ⟨rfl, N35, K37, c39, c41⟩
theorem d1_0 : decode zc17 0 = .ok (.aload_n 0, 1) := by decide +kernel
theorem d1_1 : decode zc17 1 = .ok (.aload_n 1, 1) := by decide +kernel
theorem d1_2 : decode zc17 2 = .ok (.iload_n 2, 1) := by decide +kernel
theorem d1_3 : decode zc17 3 = .ok (.iload_n 3, 1) := by decide +kernel
theorem d1_4 : decode zc17 4 = .ok (.iload 4, 2) := by decide +kernel
theorem d1_6 : decode zc17 6 = .ok (.aconst_null, 1) := by decide +kernel
theorem d1_7 : decode zc17 7 = .ok (.invokespecial 27, 3) := by decide +kernel
theorem tw15 : (Cond.methodLink sq8 27 ⟨sq8, "<init>", sq46⟩) ∈ tables_1 := mAt 15 rfl
theorem tw17 : (Cond.code ⟨sq8, "<init>", sq46⟩ prog_1_method_2_code 6 (Option.none : Option Jvm.ClassFile.FieldType)) ∈ tables_1 := mAt 17 rfl
theorem tw3 : (Cond.initialized sq8) ∈ tables_1 := mAt 3 rfl
theorem pd1 : parseMethodDescriptor "(Ljava/lang/String;IIILcom/example/count_calibrated_demand/countcalibrateddemand/Coordinates;)V" = some ⟨[(.object "java/lang/String"), .int, .int, .int, (.object "com/example/count_calibrated_demand/countcalibrateddemand/Coordinates")], none⟩ := by decide +kernel
theorem tw16 : (Cond.instanceMethod ⟨sq8, "<init>", sq46⟩) ∈ tables_1 := mAt 16 rfl
theorem d1_10 : decode zc17 10 = .ok (.return_, 1) := by decide +kernel
theorem ef1 (m : MethodId) (x0 : Addr) (x1 : Addr) (x2 : Int32) (x3 : Int32) (x4 : Int32) : entryFrame m #[(.ref x0), (.ref x1), (.int x2), (.int x3), (.int x4)] 5 = mkF m 0 #[SR x0, SR x1, SI x2, SI x3, SI x4] [] := by first | (simp [entryFrame, mkF, argsToLocals, Value.category]; done) | rfl
def Q1 (Z : State) (a0_ : Addr) (a1_ : Addr) (p2 : Int32) (p3 : Int32) (p4 : Int32) (h0 : Heap) (n0 : Nat) (v : Option Value) (h : Heap) (L : List Loc) : Prop := v = none ∧ Fr n0 L ∧ Keep h0 h [a0_] ∧ Exa Z h a0_ sq8 ∧ Fld Z h a0_ sq8 "endTime" "I" (.int p3)
theorem rm1 (l : Launch) (Z : State) (a0 : Array Value) (hw : ∀ d ∈ tables_1, d.before a0 Z = true) (ws : List Jvm.Cond) (a0_ : Addr) (a1_ : Addr) (p2 : Int32) (p3 : Int32) (p4 : Int32) (h0 : Heap) (n0 : Nat) (O0 : Old Z n0 h0) (E0 : Exa Z h0 a0_ sq8) (g0 : n0 ≤ a0_) (F_type : Fld Z h0 a0_ sq8 "type" sq23 .null) (F_link : Fld Z h0 a0_ sq8 "link" "I" (.int 0)) (F_endTime : Fld Z h0 a0_ sq8 "endTime" "I" (.int 0)) (F_maxDuration : Fld Z h0 a0_ sq8 "maxDuration" "I" (.int 0)) (F_coordinates : Fld Z h0 a0_ sq8 "coordinates" sq40 .null) :
    Met l Z ws (⟨sq8, "<init>", "(Ljava/lang/String;III)V"⟩ : MethodName) prog_1_method_1_code 5 none (Rm 3 0 0 41) #[(.ref a0_), (.ref a1_), (.int p2), (.int p3), (.int p4)] h0 (Q1 Z a0_ a1_ p2 p3 p4 h0 n0) := by
  refine Met.enter (L0 := #[SR a0_, SR a1_, SI p2, SI p3, SI p4]) (plainFor_of_name pn26) (fun m => ef1 m a0_ a1_ p2 p3 p4) ?_
  intro p e s m below meth c s₁ hx hby hml hown hnm hret hlk hZ X0 e0
  have N0 := Fr.nil n0
  have Z0 := own_z0 O0
  have K0 : Keep h0 h0 [a0_] := Keep.refl h0 _
  refine Go.st (t' := s₁.setTop (mkF m 7 #[SR a0_, SR a1_, SI p2, SI p3, SI p4] [.null, (.int p4), (.int p3), (.int p2), (.ref a1_), (.ref a0_)])) (fun target kt => ?_) ?_
  · refine XS.aloadN X0.here hx rfl (hb hby d1_0) rfl rfl ?_
    refine XS.aloadN X0.here hx rfl (hb hby d1_1) rfl rfl ?_
    refine XS.iloadN X0.here hx rfl (hb hby d1_2) rfl ?_
    refine XS.iloadN X0.here hx rfl (hb hby d1_3) rfl ?_
    refine XS.iload X0.here hx rfl (hb hby d1_4) rfl ?_
    refine XS.aconstNull X0.here hx rfl (hb hby d1_6) ?_
    exact kt
  refine Go.cps (own_ci (W := 0) (b := a0_) (argsL := [(.ref a1_), (.int p2), (.int p3), (.int p4), .null]) (rest := []) X0 hx hZ hown rfl (hw _ tw15) (hw _ tw16) (hw _ tw17) (hw _ tw3) (by decide) e0 (rm2 l Z a0 hw [] a0_ a1_ p2 p3 p4 h0 n0 O0  E0 g0 F_type F_link F_endTime F_maxDuration F_coordinates) rfl (by rw [hml]; rfl) (lenOf pd1 rfl) rfl (Nat.le_of_eq rfl) (hb hby d1_7) rfl (by decide)) ?_
  rintro T10 _ L10 X10 ⟨rfl, Nq10, Kq10, q11, q12⟩
  have N10 := Fr.app N0 Nq10
  have K13 := K0.trans Kq10 (allS (Or.inl mI0) all0)
  have O14 := O0.keep Kq10 (allS g0 all0)
  refine Go.ret X10 (v := none) (fun _ => rfl) hlk (fun fs hr => X10.returnOut hx hret (hb hby d1_10) hr) ?_ (by decide) (by decide)
  show Q1 Z a0_ a1_ p2 p3 p4 h0 n0 _ T10.heap _
  exact ⟨rfl, N10, K13, q11, q12⟩
theorem d5_0 : decode zc23 0 = .ok (.aload_n 0, 1) := by decide +kernel
theorem d5_1 : decode zc23 1 = .ok (.invokespecial 1, 3) := by decide +kernel
theorem tw42 : (Cond.methodLink sq18 1 ⟨sq1, "<init>", "()V"⟩) ∈ tables_1 := mAt 42 rfl
theorem d5_4 : decode zc23 4 = .ok (.aload_n 0, 1) := by decide +kernel
theorem d5_5 : decode zc23 5 = .ok (.aload_n 1, 1) := by decide +kernel
theorem d5_6 : decode zc23 6 = .ok (.putfield 7, 3) := by decide +kernel
theorem tw43 : (Cond.fieldLink sq18 7 sq18 "route" "[I") ∈ tables_1 := mAt 43 rfl
theorem tw44 : (Cond.lays sq18 sq18 "route" "[I") ∈ tables_1 := mAt 44 rfl
theorem tw37 : (Cond.instantiable sq18 1) ∈ tables_1 := mAt 37 rfl
theorem d5_9 : decode zc23 9 = .ok (.return_, 1) := by decide +kernel
theorem ef5 (m : MethodId) (x0 : Addr) : entryFrame m #[(.ref x0), .null] 2 = mkF m 0 #[SR x0, .val .null] [] := by first | (simp [entryFrame, mkF, argsToLocals, Value.category]; done) | rfl
def Q5 (Z : State) (a0_ : Addr) (h0 : Heap) (n0 : Nat) (v : Option Value) (h : Heap) (L : List Loc) : Prop := v = none ∧ Fr n0 L ∧ Keep h0 h [a0_] ∧ Exa Z h a0_ sq18
theorem pn41 : plainName "com/example/count_calibrated_demand/countcalibrateddemand/Leg" = true := by first | (simp [plainName, overriddenIn]; done) | decide +kernel
theorem rm5 (l : Launch) (Z : State) (a0 : Array Value) (hw : ∀ d ∈ tables_1, d.before a0 Z = true) (ws : List Jvm.Cond) (a0_ : Addr) (h0 : Heap) (n0 : Nat) (O0 : Old Z n0 h0) (E0 : Exa Z h0 a0_ sq18) (g0 : n0 ≤ a0_) (F_r : Fld Z h0 a0_ sq18 "route" "[I" .null) :
    Met l Z ws (⟨sq18, "<init>", "([I)V"⟩ : MethodName) prog_31_method_1_code 2 none (Rm 1 0 0 12) #[(.ref a0_), .null] h0 (Q5 Z a0_ h0 n0) := by
  refine Met.enter (L0 := #[SR a0_, .val .null]) (plainFor_of_name pn41) (fun m => ef5 m a0_) ?_
  intro p e s m below meth c s₁ hx hby hml hown hnm hret hlk hZ X0 e0
  have N0 := Fr.nil n0
  have Z0 := own_z0 O0
  have K0 : Keep h0 h0 [a0_] := Keep.refl h0 _
  refine Go.st (t' := s₁.setTop (mkF m 1 #[SR a0_, .val .null] [(.ref a0_)])) (fun target kt => ?_) ?_
  · refine XS.aloadN X0.here hx rfl (hb hby d5_0) rfl rfl ?_
    exact kt
  obtain ⟨T10, X10, e10, st10⟩ := initO X0 hx hZ hown (hw _ tw42) (hw _ tw24) (hw _ tw25) e0 (g := (mkF m 1 #[SR a0_, .val .null] [(.ref a0_)])) rfl (by rw [hml]; rfl) rfl (hb hby d5_1) (by decide) (W := 0) (by show 2 * 0 + _ ≤ _; exact Nat.le_of_eq rfl) (by decide)
  refine Go.st st10 ?_
  refine Go.st (t' := T10.setTop (mkF m 6 #[SR a0_, .val .null] [.null, (.ref a0_)])) (fun target kt => ?_) ?_
  · refine XS.aloadN X10.here hx rfl (hb hby d5_4) rfl rfl ?_
    refine XS.aloadN X10.here hx rfl (hb hby d5_5) rfl rfl ?_
    exact kt
  obtain ⟨T11, h11, X11, e11, W11, st11⟩ := putF X10 hx hZ hown (host := "") (Or.inl (hw _ tw43)) Via.refl e10 F_r E0 (Or.inl (hw _ tw44)) (hw _ tw37) (ty := (.array .int)) (by decide) rfl rfl (g := (mkF m 6 #[SR a0_, .val .null] [.null, (.ref a0_)])) rfl rfl (hb hby d5_6)
  have F12 : Fld Z h11 a0_ sq18 "route" "[I" .null := F_r.same W11
  have K13 := K0.wr W11 (Or.inl mI0)
  have O14 := O0.wr W11 g0
  have N11 := Fr.snoc X11 N0 g0
  refine Go.st st11 ?_
  have c15 := E0.keep K13
  refine Go.ret X11 (v := none) (fun _ => rfl) hlk (fun fs hr => X11.returnOut hx hret (hb hby d5_9) hr) ?_ (by decide) (by decide)
  show Q5 Z a0_ h0 n0 _ T11.heap _
  rw [e11]
  exact ⟨rfl, N11, K13, c15⟩
theorem d7_0 : decode zc24 0 = .ok (.aload_n 0, 1) := by decide +kernel
theorem d7_1 : decode zc24 1 = .ok (.invokespecial 1, 3) := by decide +kernel
theorem tw57 : (Cond.methodLink sq13 1 ⟨sq28, "<init>", "()V"⟩) ∈ tables_1 := mAt 57 rfl
theorem tw62 : (Cond.code ⟨sq28, "<init>", "()V"⟩ jdk_22_method_1_code 1 (Option.none : Option Jvm.ClassFile.FieldType)) ∈ tables_1 := mAt 62 rfl
theorem tw61 : (Cond.initialized sq28) ∈ tables_1 := mAt 61 rfl
theorem tw58 : (Cond.instanceMethod ⟨sq28, "<init>", "()V"⟩) ∈ tables_1 := mAt 58 rfl
theorem d7_4 : decode zc24 4 = .ok (.aload_n 0, 1) := by decide +kernel
theorem d7_5 : decode zc24 5 = .ok (.iconst 0, 1) := by decide +kernel
theorem d7_6 : decode zc24 6 = .ok (.putfield 7, 3) := by decide +kernel
theorem tw64 : (Cond.fieldLink sq13 7 sq13 "modCount" "I") ∈ tables_1 := mAt 64 rfl
theorem tw65 : (Cond.lays sq0 sq13 "modCount" "I") ∈ tables_1 := mAt 65 rfl
theorem tw46 : (Cond.instantiable sq0 3) ∈ tables_1 := mAt 46 rfl
theorem d7_9 : decode zc24 9 = .ok (.return_, 1) := by decide +kernel
theorem tw68 : (Cond.lays sq0 sq0 sq10 sq2) ∈ tables_1 := mAt 68 rfl
theorem tw77 : (Cond.lays sq0 sq0 "size" "I") ∈ tables_1 := mAt 77 rfl
def Q7 (Z : State) (a0_ : Addr) (h0 : Heap) (n0 : Nat) (v : Option Value) (h : Heap) (L : List Loc) : Prop := v = none ∧ Fr n0 L ∧ Keep h0 h [a0_] ∧ Exa Z h a0_ sq0 ∧ Fld Z h a0_ sq0 sq10 sq2 .null ∧ Fld Z h a0_ sq0 "size" "I" (.int 0) ∧ Fld Z h a0_ sq13 "modCount" "I" (.int 0)
theorem pn48 : plainName "java/util/AbstractList" = true := by first | (simp [plainName, overriddenIn]; done) | decide +kernel
theorem rm7 (l : Launch) (Z : State) (a0 : Array Value) (hw : ∀ d ∈ tables_1, d.before a0 Z = true) (ws : List Jvm.Cond) (a0_ : Addr) (h0 : Heap) (n0 : Nat) (O0 : Old Z n0 h0) (E0 : Exa Z h0 a0_ sq0) (g0 : n0 ≤ a0_) (F_m : Fld Z h0 a0_ sq13 "modCount" "I" (.int 0)) (F_d : Fld Z h0 a0_ sq0 sq10 sq2 .null) (F_s : Fld Z h0 a0_ sq0 "size" "I" (.int 0)) :
    Met l Z ws (⟨sq13, "<init>", "()V"⟩ : MethodName) jdk_39_method_1_code 1 none (Rm 2 0 0 24) #[(.ref a0_)] h0 (Q7 Z a0_ h0 n0) := by
  refine Met.enter (L0 := #[SR a0_]) (plainFor_of_name pn48) (fun m => ef3 m a0_) ?_
  intro p e s m below meth c s₁ hx hby hml hown hnm hret hlk hZ X0 e0
  have N0 := Fr.nil n0
  have Z0 := own_z0 O0
  have K0 : Keep h0 h0 [a0_] := Keep.refl h0 _
  refine Go.st (t' := s₁.setTop (mkF m 1 #[SR a0_] [(.ref a0_)])) (fun target kt => ?_) ?_
  · refine XS.aloadN X0.here hx rfl (hb hby d7_0) rfl rfl ?_
    exact kt
  refine Go.cps (own_ci (W := 0) (b := a0_) (argsL := []) (rest := []) X0 hx hZ hown rfl (hw _ tw57) (hw _ tw58) (hw _ tw62) (hw _ tw61) (by decide) e0 (rm8 l Z a0 hw [] a0_ h0 n0 O0  ) rfl (by rw [hml]; rfl) (lenOf pd0 rfl) rfl (Nat.le_of_eq rfl) (hb hby d7_1) rfl (by decide)) ?_
  rintro T10 _ L10 X10 ⟨rfl, Nq10, eq10⟩
  have N10 := Fr.app N0 Nq10
  refine Go.st (t' := T10.setTop (mkF m 6 #[SR a0_] [(.int 0), (.ref a0_)])) (fun target kt => ?_) ?_
  · refine XS.aloadN X10.here hx rfl (hb hby d7_4) rfl rfl ?_
    refine XS.iconst X10.here hx rfl (hb hby d7_5) ?_
    exact kt
  obtain ⟨T11, h11, X11, e11, W11, st11⟩ := putF X10 hx hZ hown (host := "") (Or.inl (hw _ tw64)) Via.refl eq10 F_m E0 (Or.inl (hw _ tw65)) (hw _ tw46) (ty := .int) (by decide) rfl rfl (g := (mkF m 6 #[SR a0_] [(.int 0), (.ref a0_)])) rfl rfl (hb hby d7_6)
  have F12 : Fld Z h11 a0_ sq13 "modCount" "I" (.int 0) := F_m.same W11
  have K13 := K0.wr W11 (Or.inl mI0)
  have O14 := O0.wr W11 g0
  have N11 := Fr.snoc X11 N10 g0
  refine Go.st st11 ?_
  have c15 := E0.keep K13
  have c16 := F_d.other W11 (Or.inr (slot_ne (Or.inl (hw _ tw68)) (Or.inl (hw _ tw65)) (by decide) (t := (.array (.object sq1))) (t' := .int) (by decide) (by decide)))
  have c17 := F_s.other W11 (Or.inr (slot_ne (Or.inl (hw _ tw77)) (Or.inl (hw _ tw65)) (by decide) (t := .int) (t' := .int) (by decide) (by decide)))
  refine Go.ret X11 (v := none) (fun _ => rfl) hlk (fun fs hr => X11.returnOut hx hret (hb hby d7_9) hr) ?_ (by decide) (by decide)
  show Q7 Z a0_ h0 n0 _ T11.heap _
  rw [e11]
  exact ⟨rfl, N11, K13, c15, c16, c17, F12⟩
theorem d6_0 : decode zc25 0 = .ok (.aload_n 0, 1) := by decide +kernel
theorem d6_1 : decode zc25 1 = .ok (.invokespecial 1, 3) := by decide +kernel
theorem tw51 : (Cond.methodLink sq0 1 ⟨sq13, "<init>", "()V"⟩) ∈ tables_1 := mAt 51 rfl
theorem tw56 : (Cond.code ⟨sq13, "<init>", "()V"⟩ jdk_39_method_1_code 1 (Option.none : Option Jvm.ClassFile.FieldType)) ∈ tables_1 := mAt 56 rfl
theorem tw55 : (Cond.initialized sq13) ∈ tables_1 := mAt 55 rfl
theorem tw52 : (Cond.instanceMethod ⟨sq13, "<init>", "()V"⟩) ∈ tables_1 := mAt 52 rfl
theorem d6_4 : decode zc25 4 = .ok (.aload_n 0, 1) := by decide +kernel
theorem d6_5 : decode zc25 5 = .ok (.getstatic 39, 3) := by decide +kernel
theorem tw66 : (Cond.fieldLink sq0 39 sq0 sq30 sq2) ∈ tables_1 := mAt 66 rfl
theorem d6_8 : decode zc25 8 = .ok (.putfield 9, 3) := by decide +kernel
theorem tw67 : (Cond.fieldLink sq0 9 sq0 sq10 sq2) ∈ tables_1 := mAt 67 rfl
theorem d6_11 : decode zc25 11 = .ok (.return_, 1) := by decide +kernel
def Q6 (Z : State) (a0_ : Addr) (wd : Addr) (kd : ClassId) (h0 : Heap) (n0 : Nat) (v : Option Value) (h : Heap) (L : List Loc) : Prop := v = none ∧ Fr n0 L ∧ Keep h0 h [a0_] ∧ Exa Z h a0_ sq0 ∧ Fld Z h a0_ sq0 sq10 sq2 (.ref wd) ∧ Fld Z h a0_ sq0 "size" "I" (.int 0) ∧ Fld Z h a0_ sq13 "modCount" "I" (.int 0)
theorem pn55 : plainName "java/util/ArrayList" = true := by first | (simp [plainName, overriddenIn]; done) | decide +kernel
theorem rm6 (l : Launch) (Z : State) (a0 : Array Value) (hw : ∀ d ∈ tables_1, d.before a0 Z = true) (ws : List Jvm.Cond) (a0_ : Addr) (wd : Addr) (kd : ClassId) (h0 : Heap) (n0 : Nat) (O0 : Old Z n0 h0) (S_DE : Sta Z Z.heap sq0 sq30 sq2 (.ref wd)) (E_wd : Exa Z Z.heap wd sq2) (V_wd : Arv Z Z.heap wd kd (.object sq1) (0 : Int32) [] .null) (E0 : Exa Z h0 a0_ sq0) (g0 : n0 ≤ a0_) (F_d : Fld Z h0 a0_ sq0 sq10 sq2 .null) (F_s : Fld Z h0 a0_ sq0 "size" "I" (.int 0)) (F_m : Fld Z h0 a0_ sq13 "modCount" "I" (.int 0)) :
    Met l Z ws (⟨sq0, "<init>", "()V"⟩ : MethodName) jdk_38_method_2_code 1 none (Rm 3 0 0 36) #[(.ref a0_)] h0 (Q6 Z a0_ wd kd h0 n0) := by
  refine Met.enter (L0 := #[SR a0_]) (plainFor_of_name pn55) (fun m => ef3 m a0_) ?_
  intro p e s m below meth c s₁ hx hby hml hown hnm hret hlk hZ X0 e0
  have N0 := Fr.nil n0
  have Z0 := own_z0 O0
  have K0 : Keep h0 h0 [a0_] := Keep.refl h0 _
  refine Go.st (t' := s₁.setTop (mkF m 1 #[SR a0_] [(.ref a0_)])) (fun target kt => ?_) ?_
  · refine XS.aloadN X0.here hx rfl (hb hby d6_0) rfl rfl ?_
    exact kt
  refine Go.cps (own_ci (W := 0) (b := a0_) (argsL := []) (rest := []) X0 hx hZ hown rfl (hw _ tw51) (hw _ tw52) (hw _ tw56) (hw _ tw55) (by decide) e0 (rm7 l Z a0 hw [] a0_ h0 n0 O0  E0 g0 F_m F_d F_s) rfl (by rw [hml]; rfl) (lenOf pd0 rfl) rfl (Nat.le_of_eq rfl) (hb hby d6_1) rfl (by decide)) ?_
  rintro T10 _ L10 X10 ⟨rfl, Nq10, Kq10, q11, q12, q13, q14⟩
  have N10 := Fr.app N0 Nq10
  have K15 := K0.trans Kq10 (allS (Or.inl mI0) all0)
  have O16 := O0.keep Kq10 (allS g0 all0)
  refine Go.st (t' := T10.setTop (mkF m 5 #[SR a0_] [(.ref a0_)])) (fun target kt => ?_) ?_
  · refine XS.aloadN X10.here hx rfl (hb hby d6_4) rfl rfl ?_
    exact kt
  obtain ⟨T17, X17, e17, st17⟩ := getS2 X10 hx hZ hown (host := "") (Or.inl (hw _ tw66)) Via.refl rfl (S_DE.ext O16.2) (g := (mkF m 5 #[SR a0_] [(.ref a0_)])) rfl (hb hby d6_5)
  refine Go.st st17 ?_
  obtain ⟨T18, h18, X18, e18, W18, st18⟩ := putF X17 hx hZ hown (host := "") (Or.inl (hw _ tw67)) Via.refl e17 q12 q11 (Or.inl (hw _ tw68)) (hw _ tw46) (ty := (.array (.object sq1))) (by decide) rfl rfl (g := (mkF m 8 #[SR a0_] [(.ref wd), (.ref a0_)])) rfl rfl (hb hby d6_8)
  have F19 : Fld Z h18 a0_ sq0 sq10 sq2 (.ref wd) := q12.same W18
  have K20 := K15.wr W18 (Or.inl mI0)
  have O21 := O16.wr W18 g0
  have N18 := Fr.snoc X18 N10 g0
  refine Go.st st18 ?_
  have c22 := q11.wr W18
  have c23 := q13.other W18 (Or.inr (slot_ne (Or.inl (hw _ tw77)) (Or.inl (hw _ tw68)) (by decide) (t := .int) (t' := (.array (.object sq1))) (by decide) (by decide)))
  have c24 := q14.other W18 (Or.inr (slot_ne (Or.inl (hw _ tw65)) (Or.inl (hw _ tw68)) (by decide) (t := .int) (t' := (.array (.object sq1))) (by decide) (by decide)))
  refine Go.ret X18 (v := none) (fun _ => rfl) hlk (fun fs hr => X18.returnOut hx hret (hb hby d6_11) hr) ?_ (by decide) (by decide)
  show Q6 Z a0_ wd kd h0 n0 _ T18.heap _
  rw [e18]
  exact ⟨rfl, N18, K20, c22, F19, c23, c24⟩
theorem d13_0 : decode zc26 0 = .ok (.iload_n 0, 1) := by decide +kernel
theorem d13_1 : decode zc26 1 = .ok (.iload_n 1, 1) := by decide +kernel
theorem d13_2 : decode zc26 2 = .ok (.if_icmp .lt 7, 3) := by decide +kernel
theorem d13_5 : decode zc26 5 = .ok (.iload_n 0, 1) := by decide +kernel
theorem d13_6 : decode zc26 6 = .ok (.goto 4, 3) := by decide +kernel
theorem d13_10 : decode zc26 10 = .ok (.ireturn, 1) := by decide +kernel
theorem ef13 (m : MethodId)  : entryFrame m #[(.int 10), (.int 1)] 2 = mkF m 0 #[SI 10, SI 1] [] := by first | (simp [entryFrame, mkF, argsToLocals, Value.category]; done) | rfl
def Q13 (Z : State)  (h0 : Heap) (n0 : Nat) (v : Option Value) (h : Heap) (L : List Loc) : Prop := v = some (.int 10) ∧ Fr n0 L ∧ h = h0
theorem rm13 (l : Launch) (Z : State) (a0 : Array Value) (hw : ∀ d ∈ tables_1, d.before a0 Z = true) (ws : List Jvm.Cond)  (h0 : Heap) (n0 : Nat) (O0 : Old Z n0 h0) :
    Met l Z ws (⟨"java/lang/Math", "max", "(II)I"⟩ : MethodName) jdk_29_method_65_code 2 (some .int) (Rm 0 0 0 0) #[(.int 10), (.int 1)] h0 (Q13 Z  h0 n0) := by
  refine Met.enter (L0 := #[SI 10, SI 1]) (Jvm.Free.JP.mathPlain rfl (by decide +kernel)) (fun m => ef13 m ) ?_
  intro p e s m below meth c s₁ hx hby hml hown hnm hret hlk hZ X0 e0
  have N0 := Fr.nil n0
  have Z0 := own_z0 O0
  have K0 : Keep h0 h0 [] := Keep.refl h0 _
  refine Go.st (t' := s₁.setTop (mkF m 10 #[SI 10, SI 1] [(.int 10)])) (fun target kt => ?_) ?_
  · refine XS.iloadN X0.here hx rfl (hb hby d13_0) rfl ?_
    refine XS.iloadN X0.here hx rfl (hb hby d13_1) rfl ?_
    refine XS.icmpNo X0.here hx rfl (hb hby d13_2) rfl (flt (by decide : ¬ ((10 : Int32) < (1 : Int32)))).1 ?_
    refine XS.iloadN X0.here hx rfl (hb hby d13_5) rfl ?_
    refine XS.goto X0.here hx rfl (pc0 := 6) (pc' := 10) rfl (hb hby d13_6) (by decide) (by decide) ?_
    exact kt
  refine Go.ret X0 (v := some (.int 10)) (fun h => by rw [hret] at h; cases h) hlk (fun fs hr => retI X0 hx hret (hb hby d13_10) hr) ?_ (by decide) (by decide)
  show Q13 Z  h0 n0 _ s₁.heap _
  rw [e0]
  exact ⟨rfl, N0, rfl⟩
theorem d12_0 : decode zc7 0 = .ok (.aload_n 0, 1) := by decide +kernel
theorem d12_1 : decode zc7 1 = .ok (.getfield 9, 3) := by decide +kernel
theorem d12_4 : decode zc7 4 = .ok (.arraylength, 1) := by decide +kernel
theorem d12_5 : decode zc7 5 = .ok (.istore_n 2, 1) := by decide +kernel
theorem d12_6 : decode zc7 6 = .ok (.iload_n 2, 1) := by decide +kernel
theorem d12_7 : decode zc7 7 = .ok (.ifCond .gt 13, 3) := by decide +kernel
theorem d12_10 : decode zc7 10 = .ok (.aload_n 0, 1) := by decide +kernel
theorem d12_11 : decode zc7 11 = .ok (.getfield 9, 3) := by decide +kernel
theorem d12_14 : decode zc7 14 = .ok (.getstatic 39, 3) := by decide +kernel
theorem d12_17 : decode zc7 17 = .ok (.if_acmp .eq 28, 3) := by decide +kernel
theorem d12_45 : decode zc7 45 = .ok (.aload_n 0, 1) := by decide +kernel
theorem d12_46 : decode zc7 46 = .ok (.bipush 10, 2) := by decide +kernel
theorem d12_48 : decode zc7 48 = .ok (.iload_n 1, 1) := by decide +kernel
theorem d12_49 : decode zc7 49 = .ok (.invokestatic 79, 3) := by decide +kernel
theorem tw93 : (Cond.methodLink sq0 79 ⟨"java/lang/Math", "max", "(II)I"⟩) ∈ tables_1 := mAt 93 rfl
theorem tw96 : (Cond.code ⟨"java/lang/Math", "max", "(II)I"⟩ jdk_29_method_65_code 2 (Option.some FieldType.int)) ∈ tables_1 := mAt 96 rfl
theorem tw95 : (Cond.initialized "java/lang/Math") ∈ tables_1 := mAt 95 rfl
theorem pd2 : parseMethodDescriptor "(II)I" = some ⟨[.int, .int], some .int⟩ := by decide +kernel
theorem tw94 : (Cond.static ⟨"java/lang/Math", "max", "(II)I"⟩) ∈ tables_1 := mAt 94 rfl
theorem d12_52 : decode zc7 52 = .ok (.anewarray 7, 3) := by decide +kernel
theorem tw97 : (Cond.classLink sq0 7 sq1) ∈ tables_1 := mAt 97 rfl
theorem tw98 : (Cond.arrayOver (FieldType.object sq1)) ∈ tables_1 := mAt 98 rfl
theorem d12_55 : decode zc7 55 = .ok (.dup_x1, 1) := by decide +kernel
theorem d12_56 : decode zc7 56 = .ok (.putfield 9, 3) := by decide +kernel
theorem d12_59 : decode zc7 59 = .ok (.areturn, 1) := by decide +kernel
theorem ef12 (m : MethodId) (x0 : Addr) : entryFrame m #[(.ref x0), (.int 1)] 4 = mkF m 0 #[SR x0, SI 1, .unset, .unset] [] := by first | (simp [entryFrame, mkF, argsToLocals, Value.category]; done) | rfl
def Q12 (Z : State) (a0_ : Addr) (wd : Addr) (kd : ClassId) (pmc : Int32) (h0 : Heap) (n0 : Nat) (v : Option Value) (h : Heap) (L : List Loc) : Prop := ∃ (b : Addr) (kb : ClassId), v = some (.ref b) ∧ Fr n0 L ∧ Keep h0 h [a0_] ∧ h0.size ≤ b ∧ Ovr Z kb sq1 ∧ Exa Z h a0_ sq0 ∧ Fld Z h a0_ sq0 sq10 sq2 (.ref b) ∧ Fld Z h a0_ sq0 "size" "I" (.int 0) ∧ Fld Z h a0_ sq13 "modCount" "I" (.int pmc) ∧ Exa Z h b sq2 ∧ Arv Z h b kb (.object sq1) (10 : Int32) [.null, .null, .null, .null] .null
theorem rm12 (l : Launch) (Z : State) (a0 : Array Value) (hw : ∀ d ∈ tables_1, d.before a0 Z = true) (ws : List Jvm.Cond) (a0_ : Addr) (wd : Addr) (kd : ClassId) (pmc : Int32) (h0 : Heap) (n0 : Nat) (O0 : Old Z n0 h0) (S_DE : Sta Z Z.heap sq0 sq30 sq2 (.ref wd)) (E_wd : Exa Z Z.heap wd sq2) (V_wd : Arv Z Z.heap wd kd (.object sq1) (0 : Int32) [] .null) (E0 : Exa Z h0 a0_ sq0) (F_d : Fld Z h0 a0_ sq0 sq10 sq2 (.ref wd)) (F_s : Fld Z h0 a0_ sq0 "size" "I" (.int 0)) (F_m : Fld Z h0 a0_ sq13 "modCount" "I" (.int pmc)) (g0 : n0 ≤ a0_) :
    Met l Z ws (⟨sq0, "grow", sq34⟩ : MethodName) jdk_38_method_6_code 4 (some (.array (.object sq1))) (Rm 1 1 10 14) #[(.ref a0_), (.int 1)] h0 (Q12 Z a0_ wd kd pmc h0 n0) := by
  refine Met.enter (L0 := #[SR a0_, SI 1, .unset, .unset]) (plainFor_of_name pn55) (fun m => ef12 m a0_) ?_
  intro p e s m below meth c s₁ hx hby hml hown hnm hret hlk hZ X0 e0
  have N0 := Fr.nil n0
  have Z0 := own_z0 O0
  have K0 : Keep h0 h0 [a0_] := Keep.refl h0 _
  refine Go.st (t' := s₁.setTop (mkF m 1 #[SR a0_, SI 1, .unset, .unset] [(.ref a0_)])) (fun target kt => ?_) ?_
  · refine XS.aloadN X0.here hx rfl (hb hby d12_0) rfl rfl ?_
    exact kt
  obtain ⟨T10, X10, e10, st10⟩ := getF X0 hx hZ hown (host := "") (Or.inl (hw _ tw67)) Via.refl e0 F_d (g := (mkF m 1 #[SR a0_, SI 1, .unset, .unset] [(.ref a0_)])) rfl rfl (hb hby d12_1)
  refine Go.st st10 ?_
  obtain ⟨cl11, Ar11, -, S11, M11, -, -⟩ := id (V_wd.ext O0.2)
  refine Go.st (t' := T10.setTop (mkF m 11 #[SR a0_, SI 1, SI 0, .unset] [(.ref a0_)])) (fun target kt => ?_) ?_
  · refine X10.arraylength hx (by rw [e10]; exact Ar11.1) (State.isArrayOf_alike hZ.alike Ar11.2.1) (g := (mkF m 4 #[SR a0_, SI 1, .unset, .unset] [(.ref wd)])) rfl rfl (hb hby d12_4) _ ?_
    rw [len_of S11 M11]
    refine XS.istoreN X10.here hx rfl (hb hby d12_5) rfl (l' := #[SR a0_, SI 1, SI 0, .unset]) rfl ?_
    refine XS.iloadN X10.here hx rfl (hb hby d12_6) rfl ?_
    refine XS.ifNo X10.here hx rfl (hb hby d12_7) rfl ((if0 _ _).trans (flt (by decide : ¬ ((0 : Int32) < (0 : Int32)))).2.2.1) ?_
    refine XS.aloadN X10.here hx rfl (hb hby d12_10) rfl rfl ?_
    exact kt
  obtain ⟨T12, X12, e12, st12⟩ := getF X10 hx hZ hown (host := "") (Or.inl (hw _ tw67)) Via.refl e10 F_d (g := (mkF m 11 #[SR a0_, SI 1, SI 0, .unset] [(.ref a0_)])) rfl rfl (hb hby d12_11)
  refine Go.st st12 ?_
  obtain ⟨T13, X13, e13, st13⟩ := getS2 X12 hx hZ hown (host := "") (Or.inl (hw _ tw66)) Via.refl e12 (S_DE.ext O0.2) (g := (mkF m 14 #[SR a0_, SI 1, SI 0, .unset] [(.ref wd)])) rfl (hb hby d12_14)
  refine Go.st st13 ?_
  refine Go.st (t' := T13.setTop (mkF m 49 #[SR a0_, SI 1, SI 0, .unset] [(.int 1), (.int 10), (.ref a0_)])) (fun target kt => ?_) ?_
  · refine Jvm.RoadKit.acmp (g := (mkF m 17 #[SR a0_, SI 1, SI 0, .unset] [(.ref wd), (.ref wd)])) X13 hx rfl rfl rfl (pc0 := 17) (pc' := 45) (same := true) rfl (hb hby d12_17) rfl (decide_eq_true rfl) (by decide) (by decide) ?_
    refine XS.aloadN X13.here hx rfl (hb hby d12_45) rfl rfl ?_
    refine XS.bipush X13.here hx rfl (hb hby d12_46) ?_
    refine XS.iloadN X13.here hx rfl (hb hby d12_48) rfl ?_
    exact kt
  refine Go.cps (own_cs (W := 1) (argsL := [(.int 10), (.int 1)]) (rest := [(.ref a0_)]) X13 hx hZ hown (hw _ tw93) (hw _ tw94) (hw _ tw96) (hw _ tw95) (by decide) e13 (rm13 l Z a0 hw []  h0 n0 O0  ) rfl (by rw [hml]; rfl) (lenOf pd2 rfl) rfl (Nat.le_of_eq rfl) (hb hby d12_49) rfl (by decide)) ?_
  rintro T14 _ L14 X14 ⟨rfl, Nq14, eq14⟩
  have N14 := Fr.app N0 Nq14
  obtain ⟨T15, h15, k15, X15, e15, E15, A15, B15, O'15, st15⟩ := newRE X14 hx hZ hown (hw _ tw97) (hw _ tw98) eq14 (g := (mkF m 52 #[SR a0_, SI 1, SI 0, .unset] [(.int 10), (.ref a0_)])) rfl (hb hby d12_52) rfl (by decide) (cap := 10) (by decide) (by decide) (by decide) (by decide) (ad := sq2) (by decide)
  obtain ⟨b15, g15⟩ : ∃ z, z = h0.size := ⟨_, rfl⟩
  rw [← g15] at A15 B15 st15
  have lb16 : h0.size ≤ b15 := Nat.le_of_eq g15.symm
  have sz17 : h0.size ≤ b15 := Nat.le_trans K0.1 lb16
  have g18 : n0 ≤ b15 := Nat.le_trans Z0 sz17
  have K19 := K0.ext E15
  have O20 := O0.ext E15
  have V21 : Arv Z h15 b15 k15 (.object sq1) (10 : Int32) [.null, .null, .null, .null] .null := (Arv.new A15 (by decide)).pad (pad_rep [] .null 4)
  refine Go.st st15 ?_
  refine Go.st (t' := T15.setTop (mkF m 56 #[SR a0_, SI 1, SI 0, .unset] [(.ref b15), (.ref a0_), (.ref b15)])) (fun target kt => ?_) ?_
  · refine XS.dupX1 X15.here hx rfl (hb hby d12_55) rfl rfl rfl ?_
    exact kt
  have c22 := F_d.ext E15
  have c23 := E0.keep K19
  obtain ⟨T24, h24, X24, e24, W24, st24⟩ := putF X15 hx hZ hown (host := "") (Or.inl (hw _ tw67)) Via.refl e15 c22 c23 (Or.inl (hw _ tw68)) (hw _ tw46) (ty := (.array (.object sq1))) (by decide) rfl rfl (g := (mkF m 56 #[SR a0_, SI 1, SI 0, .unset] [(.ref b15), (.ref a0_), (.ref b15)])) rfl rfl (hb hby d12_56)
  have F25 : Fld Z h24 a0_ sq0 sq10 sq2 (.ref b15) := c22.same W24
  have K26 := K19.wr W24 (Or.inl mI0)
  have O27 := O20.wr W24 g0
  have N24 := Fr.snoc X24 N14 g0
  refine Go.st st24 ?_
  have c28 := c23.wr W24
  have c29 := (F_s.ext E15).other W24 (Or.inr (slot_ne (Or.inl (hw _ tw77)) (Or.inl (hw _ tw68)) (by decide) (t := .int) (t' := (.array (.object sq1))) (by decide) (by decide)))
  have c30 := (F_m.ext E15).other W24 (Or.inr (slot_ne (Or.inl (hw _ tw65)) (Or.inl (hw _ tw68)) (by decide) (t := .int) (t' := (.array (.object sq1))) (by decide) (by decide)))
  have c31 := B15.wr W24
  have o32 : a0_ < b15 := Nat.lt_of_lt_of_le E0.lt lb16
  have ne33 : a0_ ≠ b15 := Nat.ne_of_lt o32
  have c34 := V21.other W24 (Ne.symm ne33)
  refine Go.ret X24 (v := some (.ref b15)) (fun h => by rw [hret] at h; cases h) hlk (fun fs hr => retR X24 hx hret rfl rfl (hb hby d12_59) hr) ?_ (by decide) (by decide)
  show Q12 Z a0_ wd kd pmc h0 n0 _ T24.heap _
  rw [e24]
  exact ⟨b15, k15, rfl, N24, K26, sz17, (by first | assumption | decide | omega), c28, F25, c29, c30, c31, c34⟩
theorem d11_0 : decode zc19 0 = .ok (.aload_n 0, 1) := by decide +kernel
theorem d11_1 : decode zc19 1 = .ok (.aload_n 0, 1) := by decide +kernel
theorem d11_2 : decode zc19 2 = .ok (.getfield 48, 3) := by decide +kernel
theorem tw76 : (Cond.fieldLink sq0 48 sq0 "size" "I") ∈ tables_1 := mAt 76 rfl
theorem d11_5 : decode zc19 5 = .ok (.iconst 1, 1) := by decide +kernel
theorem d11_6 : decode zc19 6 = .ok (.iadd, 1) := by decide +kernel
theorem d11_7 : decode zc19 7 = .ok (.invokevirtual 69, 3) := by decide +kernel
theorem tw88 : (Cond.methodLink sq0 69 ⟨sq0, "grow", sq34⟩) ∈ tables_1 := mAt 88 rfl
theorem tw92 : (Cond.code ⟨sq0, "grow", sq34⟩ jdk_38_method_6_code 4 (Option.some (FieldType.array (FieldType.object sq1)))) ∈ tables_1 := mAt 92 rfl
theorem tw47 : (Cond.initialized sq0) ∈ tables_1 := mAt 47 rfl
theorem pd3 : parseMethodDescriptor "(I)[Ljava/lang/Object;" = some ⟨[.int], some (.array (.object "java/lang/Object"))⟩ := by decide +kernel
theorem tw89 : (Cond.instanceMethod ⟨sq0, "grow", sq34⟩) ∈ tables_1 := mAt 89 rfl
theorem tw91 : (Cond.selects sq0 ⟨sq0, "grow", sq34⟩ ⟨sq0, "grow", sq34⟩) ∈ tables_1 := mAt 91 rfl
theorem tw90 : (Cond.privateMethod ⟨sq0, "grow", sq34⟩) ∈ tables_1 := mAt 90 rfl
theorem d11_10 : decode zc19 10 = .ok (.areturn, 1) := by decide +kernel
def Q11 (Z : State) (a0_ : Addr) (wd : Addr) (kd : ClassId) (pmc : Int32) (h0 : Heap) (n0 : Nat) (v : Option Value) (h : Heap) (L : List Loc) : Prop := ∃ (b : Addr) (kb : ClassId), v = some (.ref b) ∧ Fr n0 L ∧ Keep h0 h [a0_] ∧ h0.size ≤ b ∧ Ovr Z kb sq1 ∧ Exa Z h a0_ sq0 ∧ Fld Z h a0_ sq0 sq10 sq2 (.ref b) ∧ Fld Z h a0_ sq0 "size" "I" (.int 0) ∧ Fld Z h a0_ sq13 "modCount" "I" (.int pmc) ∧ Exa Z h b sq2 ∧ Arv Z h b kb (.object sq1) (10 : Int32) [.null, .null, .null, .null] .null
theorem rm11 (l : Launch) (Z : State) (a0 : Array Value) (hw : ∀ d ∈ tables_1, d.before a0 Z = true) (ws : List Jvm.Cond) (a0_ : Addr) (wd : Addr) (kd : ClassId) (pmc : Int32) (h0 : Heap) (n0 : Nat) (O0 : Old Z n0 h0) (S_DE : Sta Z Z.heap sq0 sq30 sq2 (.ref wd)) (E_wd : Exa Z Z.heap wd sq2) (V_wd : Arv Z Z.heap wd kd (.object sq1) (0 : Int32) [] .null) (E0 : Exa Z h0 a0_ sq0) (F_d : Fld Z h0 a0_ sq0 sq10 sq2 (.ref wd)) (F_s : Fld Z h0 a0_ sq0 "size" "I" (.int 0)) (F_m : Fld Z h0 a0_ sq13 "modCount" "I" (.int pmc)) (g0 : n0 ≤ a0_) :
    Met l Z ws (⟨sq0, "grow", sq20⟩ : MethodName) jdk_38_method_7_code 1 (some (.array (.object sq1))) (Rm 2 1 10 29) #[(.ref a0_)] h0 (Q11 Z a0_ wd kd pmc h0 n0) := by
  refine Met.enter (L0 := #[SR a0_]) (plainFor_of_name pn55) (fun m => ef3 m a0_) ?_
  intro p e s m below meth c s₁ hx hby hml hown hnm hret hlk hZ X0 e0
  have N0 := Fr.nil n0
  have Z0 := own_z0 O0
  have K0 : Keep h0 h0 [a0_] := Keep.refl h0 _
  refine Go.st (t' := s₁.setTop (mkF m 2 #[SR a0_] [(.ref a0_), (.ref a0_)])) (fun target kt => ?_) ?_
  · refine XS.aloadN X0.here hx rfl (hb hby d11_0) rfl rfl ?_
    refine XS.aloadN X0.here hx rfl (hb hby d11_1) rfl rfl ?_
    exact kt
  obtain ⟨T10, X10, e10, st10⟩ := getF X0 hx hZ hown (host := "") (Or.inl (hw _ tw76)) Via.refl e0 F_s (g := (mkF m 2 #[SR a0_] [(.ref a0_), (.ref a0_)])) rfl rfl (hb hby d11_2)
  refine Go.st st10 ?_
  refine Go.st (t' := T10.setTop (mkF m 7 #[SR a0_] [(.int 1), (.ref a0_)])) (fun target kt => ?_) ?_
  · refine XS.iconst X10.here hx rfl (hb hby d11_5) ?_
    refine XS.iadd X10.here hx rfl (hb hby d11_6) rfl ?_
    exact kt
  refine Go.cps (own_cp (W := 0) (b := a0_) (argsL := [(.int 1)]) (rest := []) X10 hx hZ hown (hw _ tw88) (hw _ tw89) (hw _ tw91) (hw _ tw90) (hw _ tw92) (hw _ tw47) (by decide) e10 E0 (rm12 l Z a0 hw [] a0_ wd kd pmc h0 n0 O0 S_DE E_wd V_wd E0 F_d F_s F_m g0) rfl (by rw [hml]; rfl) (lenOf pd3 rfl) rfl (Nat.le_of_eq rfl) (hb hby d11_7) rfl (by decide)) ?_
  rintro T11 _ L11 X11 ⟨b12, k13, rfl, Nq11, Kq11, q14, q15, q16, q17, q18, q19, q20, q21⟩
  have N11 := Fr.app N0 Nq11
  have sz22 : h0.size ≤ b12 := Nat.le_trans K0.1 q14
  have g23 : n0 ≤ b12 := Nat.le_trans Z0 sz22
  have K24 := K0.trans Kq11 (allS (Or.inl mI0) all0)
  have O25 := O0.keep Kq11 (allS g0 all0)
  refine Go.ret X11 (v := some (.ref b12)) (fun h => by rw [hret] at h; cases h) hlk (fun fs hr => retR X11 hx hret rfl rfl (hb hby d11_10) hr) ?_ (by decide) (by decide)
  show Q11 Z a0_ wd kd pmc h0 n0 _ T11.heap _
  exact ⟨b12, k13, rfl, N11, K24, sz22, (by first | assumption | decide | omega), q16, q17, q18, q19, q20, q21⟩
theorem d10_0 : decode zc9 0 = .ok (.iload_n 3, 1) := by decide +kernel
theorem d10_1 : decode zc9 1 = .ok (.aload_n 2, 1) := by decide +kernel
theorem d10_2 : decode zc9 2 = .ok (.arraylength, 1) := by decide +kernel
theorem d10_3 : decode zc9 3 = .ok (.if_icmp .ne 8, 3) := by decide +kernel
theorem d10_6 : decode zc9 6 = .ok (.aload_n 0, 1) := by decide +kernel
theorem d10_7 : decode zc9 7 = .ok (.invokevirtual 129, 3) := by decide +kernel
theorem tw83 : (Cond.methodLink sq0 129 ⟨sq0, "grow", sq20⟩) ∈ tables_1 := mAt 83 rfl
theorem tw87 : (Cond.code ⟨sq0, "grow", sq20⟩ jdk_38_method_7_code 1 (Option.some (FieldType.array (FieldType.object sq1)))) ∈ tables_1 := mAt 87 rfl
theorem pd4 : parseMethodDescriptor "()[Ljava/lang/Object;" = some ⟨[], some (.array (.object "java/lang/Object"))⟩ := by decide +kernel
theorem tw84 : (Cond.instanceMethod ⟨sq0, "grow", sq20⟩) ∈ tables_1 := mAt 84 rfl
theorem tw86 : (Cond.selects sq0 ⟨sq0, "grow", sq20⟩ ⟨sq0, "grow", sq20⟩) ∈ tables_1 := mAt 86 rfl
theorem tw85 : (Cond.privateMethod ⟨sq0, "grow", sq20⟩) ∈ tables_1 := mAt 85 rfl
theorem d10_10 : decode zc9 10 = .ok (.astore_n 2, 1) := by decide +kernel
theorem d10_11 : decode zc9 11 = .ok (.aload_n 2, 1) := by decide +kernel
theorem d10_12 : decode zc9 12 = .ok (.iload_n 3, 1) := by decide +kernel
theorem d10_13 : decode zc9 13 = .ok (.aload_n 1, 1) := by decide +kernel
theorem d10_14 : decode zc9 14 = .ok (.aastore, 1) := by decide +kernel
theorem d10_15 : decode zc9 15 = .ok (.aload_n 0, 1) := by decide +kernel
theorem d10_16 : decode zc9 16 = .ok (.iload_n 3, 1) := by decide +kernel
theorem d10_17 : decode zc9 17 = .ok (.iconst 1, 1) := by decide +kernel
theorem d10_18 : decode zc9 18 = .ok (.iadd, 1) := by decide +kernel
theorem d10_19 : decode zc9 19 = .ok (.putfield 48, 3) := by decide +kernel
theorem d10_22 : decode zc9 22 = .ok (.return_, 1) := by decide +kernel
theorem ef10_0 (m : MethodId) (x0 : Addr) (x1 : Addr) (x2 : Addr) : entryFrame m #[(.ref x0), (.ref x1), (.ref x2), (.int 0)] 4 = mkF m 0 #[SR x0, SR x1, SR x2, SI 0] [] := by first | (simp [entryFrame, mkF, argsToLocals, Value.category]; done) | rfl
def Q10_0 (Z : State) (a0_ : Addr) (a1_ : Addr) (wd : Addr) (kd : ClassId) (pmc : Int32) (h0 : Heap) (n0 : Nat) (v : Option Value) (h : Heap) (L : List Loc) : Prop := ∃ (b : Addr) (kb : ClassId), v = none ∧ Fr n0 L ∧ Keep h0 h [a0_] ∧ h0.size ≤ b ∧ Ovr Z kb sq1 ∧ Exa Z h a0_ sq0 ∧ Fld Z h a0_ sq0 sq10 sq2 (.ref b) ∧ Fld Z h a0_ sq0 "size" "I" (.int 1) ∧ Fld Z h a0_ sq13 "modCount" "I" (.int pmc) ∧ Exa Z h b sq2 ∧ Arv Z h b kb (.object sq1) (10 : Int32) [(.ref a1_), .null, .null, .null] .null
theorem rm10_0 (l : Launch) (Z : State) (a0 : Array Value) (hw : ∀ d ∈ tables_1, d.before a0 Z = true) (ws : List Jvm.Cond) (a0_ : Addr) (a1_ : Addr) (wd : Addr) (kd : ClassId) (pmc : Int32) (h0 : Heap) (n0 : Nat) (O0 : Old Z n0 h0) (S_DE : Sta Z Z.heap sq0 sq30 sq2 (.ref wd)) (E_wd : Exa Z Z.heap wd sq2) (V_wd : Arv Z Z.heap wd kd (.object sq1) (0 : Int32) [] .null) (E0 : Exa Z h0 a0_ sq0) (F_d : Fld Z h0 a0_ sq0 sq10 sq2 (.ref wd)) (F_s : Fld Z h0 a0_ sq0 "size" "I" (.int 0)) (F_m : Fld Z h0 a0_ sq13 "modCount" "I" (.int pmc)) (g0 : n0 ≤ a0_) (I_x : Ins Z h0 a1_ sq1 true) :
    Met l Z ws mm8 jdk_38_method_24_code 4 none (Rm 3 1 10 41) #[(.ref a0_), (.ref a1_), (.ref wd), (.int 0)] h0 (Q10_0 Z a0_ a1_ wd kd pmc h0 n0) := by
  refine Met.enter (L0 := #[SR a0_, SR a1_, SR wd, SI 0]) (plainFor_of_name pn55) (fun m => ef10_0 m a0_ a1_ wd) ?_
  intro p e s m below meth c s₁ hx hby hml hown hnm hret hlk hZ X0 e0
  have N0 := Fr.nil n0
  have Z0 := own_z0 O0
  have K0 : Keep h0 h0 [a0_] := Keep.refl h0 _
  obtain ⟨cl10, Ar10, -, S10, M10, -, -⟩ := id (V_wd.ext O0.2)
  refine Go.st (t' := s₁.setTop (mkF m 7 #[SR a0_, SR a1_, SR wd, SI 0] [(.ref a0_)])) (fun target kt => ?_) ?_
  · refine XS.iloadN X0.here hx rfl (hb hby d10_0) rfl ?_
    refine XS.aloadN X0.here hx rfl (hb hby d10_1) rfl rfl ?_
    refine X0.arraylength hx (by rw [e0]; exact Ar10.1) (State.isArrayOf_alike hZ.alike Ar10.2.1) (g := (mkF m 2 #[SR a0_, SR a1_, SR wd, SI 0] [(.ref wd), (.int 0)])) rfl rfl (hb hby d10_2) _ ?_
    rw [len_of S10 M10]
    refine XS.icmpNo X0.here hx rfl (hb hby d10_3) rfl (teq (by decide : (0 : Int32) = (0 : Int32))).2 ?_
    refine XS.aloadN X0.here hx rfl (hb hby d10_6) rfl rfl ?_
    exact kt
  refine Go.cps (own_cp (W := 0) (b := a0_) (argsL := []) (rest := []) X0 hx hZ hown (hw _ tw83) (hw _ tw84) (hw _ tw86) (hw _ tw85) (hw _ tw87) (hw _ tw47) (by decide) e0 E0 (rm11 l Z a0 hw [] a0_ wd kd pmc h0 n0 O0 S_DE E_wd V_wd E0 F_d F_s F_m g0) rfl (by rw [hml]; rfl) (lenOf pd4 rfl) rfl (Nat.le_of_eq rfl) (hb hby d10_7) rfl (by decide)) ?_
  rintro T11 _ L11 X11 ⟨b12, k13, rfl, Nq11, Kq11, q14, q15, q16, q17, q18, q19, q20, q21⟩
  have N11 := Fr.app N0 Nq11
  have sz22 : h0.size ≤ b12 := Nat.le_trans K0.1 q14
  have g23 : n0 ≤ b12 := Nat.le_trans Z0 sz22
  have K24 := K0.trans Kq11 (allS (Or.inl mI0) all0)
  have O25 := O0.keep Kq11 (allS g0 all0)
  refine Go.st (t' := T11.setTop (mkF m 14 #[SR a0_, SR a1_, SR b12, SI 0] [(.ref a1_), (.int 0), (.ref b12)])) (fun target kt => ?_) ?_
  · refine XS.astoreN X11.here hx rfl (hb hby d10_10) rfl rfl (l' := #[SR a0_, SR a1_, SR b12, SI 0]) rfl ?_
    refine XS.aloadN X11.here hx rfl (hb hby d10_11) rfl rfl ?_
    refine XS.iloadN X11.here hx rfl (hb hby d10_12) rfl ?_
    refine XS.aloadN X11.here hx rfl (hb hby d10_13) rfl rfl ?_
    exact kt
  obtain ⟨cl26, Ar26, q26, S26, M26, H26, G26⟩ := id q21
  have hin26 : ¬ ((0 : Int32) < 0 ∨ cl26.slots.size ≤ ((0 : Int32)).toNatClampNeg) := inb_of S26 ⟨by decide, by decide⟩
  have c27 := I_x.keep K24
  obtain ⟨T26, h26, X26, e26, W26, st26⟩ := stR X11 hx hZ rfl Ar26 (j := (0 : Int32)) hin26 rfl (Sto.ofV Ar26 q26 q15 c27) (g := (mkF m 14 #[SR a0_, SR a1_, SR b12, SI 0] [(.ref a1_), (.int 0), (.ref b12)])) rfl rfl (hb hby d10_14)
  have V28 : Arv Z h26 b12 k13 (.object sq1) (10 : Int32) [(.ref a1_), .null, .null, .null] .null := Arv.set Ar26 q26 S26 M26 H26 G26 rfl W26 0 rfl (Nat.le_of_ble_eq_true rfl)
  have K29 := K24.wr W26 (Or.inr sz22)
  have O30 := O25.wr W26 g23
  have N26 := Fr.snoc X26 N11 g23
  refine Go.st st26 ?_
  refine Go.st (t' := T26.setTop (mkF m 19 #[SR a0_, SR a1_, SR b12, SI 0] [(.int 1), (.ref a0_)])) (fun target kt => ?_) ?_
  · refine XS.aloadN X26.here hx rfl (hb hby d10_15) rfl rfl ?_
    refine XS.iloadN X26.here hx rfl (hb hby d10_16) rfl ?_
    refine XS.iconst X26.here hx rfl (hb hby d10_17) ?_
    refine XS.iadd X26.here hx rfl (hb hby d10_18) rfl ?_
    exact kt
  have o31 : a0_ < b12 := Nat.lt_of_lt_of_le E0.lt q14
  have ne32 : a0_ ≠ b12 := Nat.ne_of_lt o31
  have c33 := q18.other W26 (Or.inl ne32)
  have c34 := q16.wr W26
  obtain ⟨T35, h35, X35, e35, W35, st35⟩ := putF X26 hx hZ hown (host := "") (Or.inl (hw _ tw76)) Via.refl e26 c33 c34 (Or.inl (hw _ tw77)) (hw _ tw46) (ty := .int) (by decide) rfl rfl (g := (mkF m 19 #[SR a0_, SR a1_, SR b12, SI 0] [(.int 1), (.ref a0_)])) rfl rfl (hb hby d10_19)
  have F36 : Fld Z h35 a0_ sq0 "size" "I" (.int 1) := c33.same W35
  have K37 := K29.wr W35 (Or.inl mI0)
  have O38 := O30.wr W35 g0
  have N35 := Fr.snoc X35 N26 g0
  refine Go.st st35 ?_
  have c39 := c34.wr W35
  have S_40 : Keep T11.heap h35 [b12, a0_] := (((Keep.refl T11.heap [b12, a0_]).wr W26 (Or.inl mI0)).wr W35 (Or.inl mI1))
  have c41 := (q17.other W26 (Or.inl ne32)).other W35 (Or.inr (slot_ne (Or.inl (hw _ tw68)) (Or.inl (hw _ tw77)) (by decide) (t := (.array (.object sq1))) (t' := .int) (by decide) (by decide)))
  have c42 := (q19.other W26 (Or.inl ne32)).other W35 (Or.inr (slot_ne (Or.inl (hw _ tw65)) (Or.inl (hw _ tw77)) (by decide) (t := .int) (t' := .int) (by decide) (by decide)))
  have c43 := q20.keep S_40
  have c44 := V28.other W35 (Ne.symm ne32)
  refine Go.ret X35 (v := none) (fun _ => rfl) hlk (fun fs hr => X35.returnOut hx hret (hb hby d10_22) hr) ?_ (by decide) (by decide)
  show Q10_0 Z a0_ a1_ wd kd pmc h0 n0 _ T35.heap _
  rw [e35]
  exact ⟨b12, k13, rfl, N35, K37, sz22, (by first | assumption | decide | omega), c39, c41, F36, c42, c43, c44⟩
theorem d9_0 : decode zc10 0 = .ok (.aload_n 0, 1) := by decide +kernel
theorem d9_1 : decode zc10 1 = .ok (.dup, 1) := by decide +kernel
theorem d9_2 : decode zc10 2 = .ok (.getfield 63, 3) := by decide +kernel
theorem tw74 : (Cond.fieldLink sq0 63 sq0 "modCount" "I") ∈ tables_1 := mAt 74 rfl
theorem tw75 : (Cond.sameField sq0 sq13 "modCount" "I") ∈ tables_1 := mAt 75 rfl
theorem d9_5 : decode zc10 5 = .ok (.iconst 1, 1) := by decide +kernel
theorem d9_6 : decode zc10 6 = .ok (.iadd, 1) := by decide +kernel
theorem d9_7 : decode zc10 7 = .ok (.putfield 63, 3) := by decide +kernel
theorem d9_10 : decode zc10 10 = .ok (.aload_n 0, 1) := by decide +kernel
theorem d9_11 : decode zc10 11 = .ok (.aload_n 1, 1) := by decide +kernel
theorem d9_12 : decode zc10 12 = .ok (.aload_n 0, 1) := by decide +kernel
theorem d9_13 : decode zc10 13 = .ok (.getfield 9, 3) := by decide +kernel
theorem d9_16 : decode zc10 16 = .ok (.aload_n 0, 1) := by decide +kernel
theorem d9_17 : decode zc10 17 = .ok (.getfield 48, 3) := by decide +kernel
theorem d9_20 : decode zc10 20 = .ok (.invokevirtual 131, 3) := by decide +kernel
theorem tw78 : (Cond.methodLink sq0 131 ⟨sq0, "add", sq31⟩) ∈ tables_1 := mAt 78 rfl
theorem tw82 : (Cond.code ⟨sq0, "add", sq31⟩ jdk_38_method_24_code 4 (Option.none : Option Jvm.ClassFile.FieldType)) ∈ tables_1 := mAt 82 rfl
theorem pd5 : parseMethodDescriptor "(Ljava/lang/Object;[Ljava/lang/Object;I)V" = some ⟨[(.object "java/lang/Object"), (.array (.object "java/lang/Object")), .int], none⟩ := by decide +kernel
theorem tw79 : (Cond.instanceMethod ⟨sq0, "add", sq31⟩) ∈ tables_1 := mAt 79 rfl
theorem tw81 : (Cond.selects sq0 ⟨sq0, "add", sq31⟩ ⟨sq0, "add", sq31⟩) ∈ tables_1 := mAt 81 rfl
theorem tw80 : (Cond.privateMethod ⟨sq0, "add", sq31⟩) ∈ tables_1 := mAt 80 rfl
theorem d9_23 : decode zc10 23 = .ok (.iconst 1, 1) := by decide +kernel
theorem d9_24 : decode zc10 24 = .ok (.ireturn, 1) := by decide +kernel
theorem ef9_0 (m : MethodId) (x0 : Addr) (x1 : Addr) : entryFrame m #[(.ref x0), (.ref x1)] 2 = mkF m 0 #[SR x0, SR x1] [] := by first | (simp [entryFrame, mkF, argsToLocals, Value.category]; done) | rfl
def Q9_0 (Z : State) (a0_ : Addr) (a1_ : Addr) (wd : Addr) (kd : ClassId) (pmc : Int32) (h0 : Heap) (n0 : Nat) (v : Option Value) (h : Heap) (L : List Loc) : Prop := ∃ (b : Addr) (kb : ClassId), v = some (.int 1) ∧ Fr n0 L ∧ Keep h0 h [a0_] ∧ h0.size ≤ b ∧ Ovr Z kb sq1 ∧ Exa Z h a0_ sq0 ∧ Fld Z h a0_ sq0 sq10 sq2 (.ref b) ∧ Fld Z h a0_ sq0 "size" "I" (.int 1) ∧ Fld Z h a0_ sq13 "modCount" "I" (.int (pmc + (1 : Int32))) ∧ Exa Z h b sq2 ∧ Arv Z h b kb (.object sq1) (10 : Int32) [(.ref a1_), .null, .null, .null] .null
theorem rm9_0 (l : Launch) (Z : State) (a0 : Array Value) (hw : ∀ d ∈ tables_1, d.before a0 Z = true) (ws : List Jvm.Cond) (a0_ : Addr) (a1_ : Addr) (wd : Addr) (kd : ClassId) (pmc : Int32) (h0 : Heap) (n0 : Nat) (O0 : Old Z n0 h0) (S_DE : Sta Z Z.heap sq0 sq30 sq2 (.ref wd)) (E_wd : Exa Z Z.heap wd sq2) (V_wd : Arv Z Z.heap wd kd (.object sq1) (0 : Int32) [] .null) (E0 : Exa Z h0 a0_ sq0) (F_d : Fld Z h0 a0_ sq0 sq10 sq2 (.ref wd)) (F_s : Fld Z h0 a0_ sq0 "size" "I" (.int 0)) (F_m : Fld Z h0 a0_ sq13 "modCount" "I" (.int pmc)) (g0 : n0 ≤ a0_) (I_x : Ins Z h0 a1_ sq1 true) :
    Met l Z ws mm9 jdk_38_method_25_code 2 (some .boolean) (Rm 4 1 10 56) #[(.ref a0_), (.ref a1_)] h0 (Q9_0 Z a0_ a1_ wd kd pmc h0 n0) := by
  refine Met.enter (L0 := #[SR a0_, SR a1_]) (plainFor_of_name pn55) (fun m => ef9_0 m a0_ a1_) ?_
  intro p e s m below meth c s₁ hx hby hml hown hnm hret hlk hZ X0 e0
  have N0 := Fr.nil n0
  have Z0 := own_z0 O0
  have K0 : Keep h0 h0 [a0_] := Keep.refl h0 _
  refine Go.st (t' := s₁.setTop (mkF m 2 #[SR a0_, SR a1_] [(.ref a0_), (.ref a0_)])) (fun target kt => ?_) ?_
  · refine XS.aloadN X0.here hx rfl (hb hby d9_0) rfl rfl ?_
    refine XS.dup X0.here hx rfl (hb hby d9_1) rfl rfl ?_
    exact kt
  obtain ⟨T10, X10, e10, st10⟩ := getF X0 hx hZ hown (host := "") (Or.inl (hw _ tw74)) (Via.of (hw _ tw75)) e0 F_m (g := (mkF m 2 #[SR a0_, SR a1_] [(.ref a0_), (.ref a0_)])) rfl rfl (hb hby d9_2)
  refine Go.st st10 ?_
  refine Go.st (t' := T10.setTop (mkF m 7 #[SR a0_, SR a1_] [(.int (pmc + (1 : Int32))), (.ref a0_)])) (fun target kt => ?_) ?_
  · refine XS.iconst X10.here hx rfl (hb hby d9_5) ?_
    refine XS.iadd X10.here hx rfl (hb hby d9_6) rfl ?_
    exact kt
  obtain ⟨T11, h11, X11, e11, W11, st11⟩ := putF X10 hx hZ hown (host := "") (Or.inl (hw _ tw74)) (Via.of (hw _ tw75)) e10 F_m E0 (Or.inl (hw _ tw65)) (hw _ tw46) (ty := .int) (by decide) rfl rfl (g := (mkF m 7 #[SR a0_, SR a1_] [(.int (pmc + (1 : Int32))), (.ref a0_)])) rfl rfl (hb hby d9_7)
  have F12 : Fld Z h11 a0_ sq13 "modCount" "I" (.int (pmc + (1 : Int32))) := F_m.same W11
  have K13 := K0.wr W11 (Or.inl mI0)
  have O14 := O0.wr W11 g0
  have N11 := Fr.snoc X11 N0 g0
  refine Go.st st11 ?_
  refine Go.st (t' := T11.setTop (mkF m 13 #[SR a0_, SR a1_] [(.ref a0_), (.ref a1_), (.ref a0_)])) (fun target kt => ?_) ?_
  · refine XS.aloadN X11.here hx rfl (hb hby d9_10) rfl rfl ?_
    refine XS.aloadN X11.here hx rfl (hb hby d9_11) rfl rfl ?_
    refine XS.aloadN X11.here hx rfl (hb hby d9_12) rfl rfl ?_
    exact kt
  have c15 := F_d.other W11 (Or.inr (slot_ne (Or.inl (hw _ tw68)) (Or.inl (hw _ tw65)) (by decide) (t := (.array (.object sq1))) (t' := .int) (by decide) (by decide)))
  obtain ⟨T16, X16, e16, st16⟩ := getF X11 hx hZ hown (host := "") (Or.inl (hw _ tw67)) Via.refl e11 c15 (g := (mkF m 13 #[SR a0_, SR a1_] [(.ref a0_), (.ref a1_), (.ref a0_)])) rfl rfl (hb hby d9_13)
  refine Go.st st16 ?_
  refine Go.st (t' := T16.setTop (mkF m 17 #[SR a0_, SR a1_] [(.ref a0_), (.ref wd), (.ref a1_), (.ref a0_)])) (fun target kt => ?_) ?_
  · refine XS.aloadN X16.here hx rfl (hb hby d9_16) rfl rfl ?_
    exact kt
  have c17 := F_s.other W11 (Or.inr (slot_ne (Or.inl (hw _ tw77)) (Or.inl (hw _ tw65)) (by decide) (t := .int) (t' := .int) (by decide) (by decide)))
  obtain ⟨T18, X18, e18, st18⟩ := getF X16 hx hZ hown (host := "") (Or.inl (hw _ tw76)) Via.refl e16 c17 (g := (mkF m 17 #[SR a0_, SR a1_] [(.ref a0_), (.ref wd), (.ref a1_), (.ref a0_)])) rfl rfl (hb hby d9_17)
  refine Go.st st18 ?_
  have c19 := E0.keep K13
  have c20 := I_x.keep K13
  refine Go.cps (own_cp (W := 0) (b := a0_) (argsL := [(.ref a1_), (.ref wd), (.int 0)]) (rest := []) X18 hx hZ hown (hw _ tw78) (hw _ tw79) (hw _ tw81) (hw _ tw80) (hw _ tw82) (hw _ tw47) (by decide) e18 c19 (rm10_0 l Z a0 hw [] a0_ a1_ wd kd (pmc + (1 : Int32)) h11 n0 O14 S_DE E_wd V_wd c19 c15 c17 F12 g0 c20) rfl (by rw [hml]; rfl) (lenOf pd5 rfl) rfl (Nat.le_of_eq rfl) (hb hby d9_20) rfl (by decide)) ?_
  rintro T21 _ L21 X21 ⟨b22, k23, rfl, Nq21, Kq21, q24, q25, q26, q27, q28, q29, q30, q31⟩
  have N21 := Fr.app N11 Nq21
  have sz32 : h0.size ≤ b22 := Nat.le_trans K13.1 q24
  have g33 : n0 ≤ b22 := Nat.le_trans Z0 sz32
  have K34 := K13.trans Kq21 (allS (Or.inl mI0) all0)
  have O35 := O14.keep Kq21 (allS g0 all0)
  refine Go.st (t' := T21.setTop (mkF m 24 #[SR a0_, SR a1_] [(.int 1)])) (fun target kt => ?_) ?_
  · refine XS.iconst X21.here hx rfl (hb hby d9_23) ?_
    exact kt
  refine Go.ret X21 (v := some (.int 1)) (fun h => by rw [hret] at h; cases h) hlk (fun fs hr => retN X21 hx (t := .boolean) hret (by simp) (hb hby d9_24) hr) ?_ (by decide) (by decide)
  show Q9_0 Z a0_ a1_ wd kd pmc h0 n0 _ T21.heap _
  exact ⟨b22, k23, rfl, N21, K34, sz32, (by first | assumption | decide | omega), q26, q27, q28, q29, q30, q31⟩
theorem ef10_1 (m : MethodId) (x0 : Addr) (x1 : Addr) (x2 : Addr) : entryFrame m #[(.ref x0), (.ref x1), (.ref x2), (.int 1)] 4 = mkF m 0 #[SR x0, SR x1, SR x2, SI 1] [] := by first | (simp [entryFrame, mkF, argsToLocals, Value.category]; done) | rfl
def Q10_1 (Z : State) (a0_ : Addr) (a1_ : Addr) (ed : Addr) (ke : ClassId) (y0 : Addr) (pmc : Int32) (h0 : Heap) (n0 : Nat) (v : Option Value) (h : Heap) (L : List Loc) : Prop := v = none ∧ Fr n0 L ∧ Keep h0 h [a0_, ed] ∧ Exa Z h a0_ sq0 ∧ Fld Z h a0_ sq0 sq10 sq2 (.ref ed) ∧ Fld Z h a0_ sq0 "size" "I" (.int 2) ∧ Fld Z h a0_ sq13 "modCount" "I" (.int pmc) ∧ Exa Z h ed sq2 ∧ Arv Z h ed ke (.object sq1) (10 : Int32) [(.ref y0), (.ref a1_), .null, .null] .null
theorem rm10_1 (l : Launch) (Z : State) (a0 : Array Value) (hw : ∀ d ∈ tables_1, d.before a0 Z = true) (ws : List Jvm.Cond) (a0_ : Addr) (a1_ : Addr) (ed : Addr) (ke : ClassId) (y0 : Addr) (pmc : Int32) (h0 : Heap) (n0 : Nat) (O0 : Old Z n0 h0) (E0 : Exa Z h0 a0_ sq0) (F_d : Fld Z h0 a0_ sq0 sq10 sq2 (.ref ed)) (F_s : Fld Z h0 a0_ sq0 "size" "I" (.int 1)) (F_m : Fld Z h0 a0_ sq13 "modCount" "I" (.int pmc)) (E_d : Exa Z h0 ed sq2) (V_d : Arv Z h0 ed ke (.object sq1) (10 : Int32) [(.ref y0), .null, .null, .null] .null) (g0 : n0 ≤ a0_) (gd : n0 ≤ ed) (nd : a0_ ≠ ed) (ov : Ovr Z ke sq1) (I_x : Ins Z h0 a1_ sq1 true) :
    Met l Z ws mm8 jdk_38_method_24_code 4 none (Rm 0 0 0 0) #[(.ref a0_), (.ref a1_), (.ref ed), (.int 1)] h0 (Q10_1 Z a0_ a1_ ed ke y0 pmc h0 n0) := by
  refine Met.enter (L0 := #[SR a0_, SR a1_, SR ed, SI 1]) (plainFor_of_name pn55) (fun m => ef10_1 m a0_ a1_ ed) ?_
  intro p e s m below meth c s₁ hx hby hml hown hnm hret hlk hZ X0 e0
  have N0 := Fr.nil n0
  have Z0 := own_z0 O0
  have K0 : Keep h0 h0 [a0_, ed] := Keep.refl h0 _
  obtain ⟨cl10, Ar10, -, S10, M10, -, -⟩ := id V_d
  refine Go.st (t' := s₁.setTop (mkF m 14 #[SR a0_, SR a1_, SR ed, SI 1] [(.ref a1_), (.int 1), (.ref ed)])) (fun target kt => ?_) ?_
  · refine XS.iloadN X0.here hx rfl (hb hby d10_0) rfl ?_
    refine XS.aloadN X0.here hx rfl (hb hby d10_1) rfl rfl ?_
    refine X0.arraylength hx (by rw [e0]; exact Ar10.1) (State.isArrayOf_alike hZ.alike Ar10.2.1) (g := (mkF m 2 #[SR a0_, SR a1_, SR ed, SI 1] [(.ref ed), (.int 1)])) rfl rfl (hb hby d10_2) _ ?_
    rw [len_of S10 M10]
    refine XS.icmpYes X0.here hx rfl (pc0 := 3) (pc' := 11) rfl (hb hby d10_3) rfl (feq (by decide : ¬ ((1 : Int32) = (10 : Int32)))).2 (by decide) (by decide) ?_
    refine XS.aloadN X0.here hx rfl (hb hby d10_11) rfl rfl ?_
    refine XS.iloadN X0.here hx rfl (hb hby d10_12) rfl ?_
    refine XS.aloadN X0.here hx rfl (hb hby d10_13) rfl rfl ?_
    exact kt
  obtain ⟨cl11, Ar11, q11, S11, M11, H11, G11⟩ := id V_d
  have hin11 : ¬ ((1 : Int32) < 0 ∨ cl11.slots.size ≤ ((1 : Int32)).toNatClampNeg) := inb_of S11 ⟨by decide, by decide⟩
  obtain ⟨T11, h11, X11, e11, W11, st11⟩ := stR X0 hx hZ e0 Ar11 (j := (1 : Int32)) hin11 rfl (Sto.ofV Ar11 q11 ov I_x) (g := (mkF m 14 #[SR a0_, SR a1_, SR ed, SI 1] [(.ref a1_), (.int 1), (.ref ed)])) rfl rfl (hb hby d10_14)
  have V12 : Arv Z h11 ed ke (.object sq1) (10 : Int32) [(.ref y0), (.ref a1_), .null, .null] .null := Arv.set Ar11 q11 S11 M11 H11 G11 rfl W11 1 rfl (Nat.le_of_ble_eq_true rfl)
  have K13 := K0.wr W11 (Or.inl mI1)
  have O14 := O0.wr W11 gd
  have N11 := Fr.snoc X11 N0 gd
  refine Go.st st11 ?_
  refine Go.st (t' := T11.setTop (mkF m 19 #[SR a0_, SR a1_, SR ed, SI 1] [(.int 2), (.ref a0_)])) (fun target kt => ?_) ?_
  · refine XS.aloadN X11.here hx rfl (hb hby d10_15) rfl rfl ?_
    refine XS.iloadN X11.here hx rfl (hb hby d10_16) rfl ?_
    refine XS.iconst X11.here hx rfl (hb hby d10_17) ?_
    refine XS.iadd X11.here hx rfl (hb hby d10_18) rfl ?_
    exact kt
  have c15 := F_s.other W11 (Or.inl nd)
  have c16 := E0.keep K13
  obtain ⟨T17, h17, X17, e17, W17, st17⟩ := putF X11 hx hZ hown (host := "") (Or.inl (hw _ tw76)) Via.refl e11 c15 c16 (Or.inl (hw _ tw77)) (hw _ tw46) (ty := .int) (by decide) rfl rfl (g := (mkF m 19 #[SR a0_, SR a1_, SR ed, SI 1] [(.int 2), (.ref a0_)])) rfl rfl (hb hby d10_19)
  have F18 : Fld Z h17 a0_ sq0 "size" "I" (.int 2) := c15.same W17
  have K19 := K13.wr W17 (Or.inl mI0)
  have O20 := O14.wr W17 g0
  have N17 := Fr.snoc X17 N11 g0
  refine Go.st st17 ?_
  have c21 := c16.wr W17
  have c22 := (F_d.other W11 (Or.inl nd)).other W17 (Or.inr (slot_ne (Or.inl (hw _ tw68)) (Or.inl (hw _ tw77)) (by decide) (t := (.array (.object sq1))) (t' := .int) (by decide) (by decide)))
  have c23 := (F_m.other W11 (Or.inl nd)).other W17 (Or.inr (slot_ne (Or.inl (hw _ tw65)) (Or.inl (hw _ tw77)) (by decide) (t := .int) (t' := .int) (by decide) (by decide)))
  have c24 := E_d.keep K19
  have c25 := V12.other W17 (Ne.symm nd)
  refine Go.ret X17 (v := none) (fun _ => rfl) hlk (fun fs hr => X17.returnOut hx hret (hb hby d10_22) hr) ?_ (by decide) (by decide)
  show Q10_1 Z a0_ a1_ ed ke y0 pmc h0 n0 _ T17.heap _
  rw [e17]
  exact ⟨rfl, N17, K19, c21, c22, F18, c23, c24, c25⟩
def Q9_1 (Z : State) (a0_ : Addr) (a1_ : Addr) (ed : Addr) (ke : ClassId) (y0 : Addr) (pmc : Int32) (h0 : Heap) (n0 : Nat) (v : Option Value) (h : Heap) (L : List Loc) : Prop := v = some (.int 1) ∧ Fr n0 L ∧ Keep h0 h [a0_, ed] ∧ Exa Z h a0_ sq0 ∧ Fld Z h a0_ sq0 sq10 sq2 (.ref ed) ∧ Fld Z h a0_ sq0 "size" "I" (.int 2) ∧ Fld Z h a0_ sq13 "modCount" "I" (.int (pmc + (1 : Int32))) ∧ Exa Z h ed sq2 ∧ Arv Z h ed ke (.object sq1) (10 : Int32) [(.ref y0), (.ref a1_), .null, .null] .null
theorem rm9_1 (l : Launch) (Z : State) (a0 : Array Value) (hw : ∀ d ∈ tables_1, d.before a0 Z = true) (ws : List Jvm.Cond) (a0_ : Addr) (a1_ : Addr) (ed : Addr) (ke : ClassId) (y0 : Addr) (pmc : Int32) (h0 : Heap) (n0 : Nat) (O0 : Old Z n0 h0) (E0 : Exa Z h0 a0_ sq0) (F_d : Fld Z h0 a0_ sq0 sq10 sq2 (.ref ed)) (F_s : Fld Z h0 a0_ sq0 "size" "I" (.int 1)) (F_m : Fld Z h0 a0_ sq13 "modCount" "I" (.int pmc)) (E_d : Exa Z h0 ed sq2) (V_d : Arv Z h0 ed ke (.object sq1) (10 : Int32) [(.ref y0), .null, .null, .null] .null) (g0 : n0 ≤ a0_) (gd : n0 ≤ ed) (nd : a0_ ≠ ed) (ov : Ovr Z ke sq1) (I_x : Ins Z h0 a1_ sq1 true) :
    Met l Z ws mm9 jdk_38_method_25_code 2 (some .boolean) (Rm 1 0 0 15) #[(.ref a0_), (.ref a1_)] h0 (Q9_1 Z a0_ a1_ ed ke y0 pmc h0 n0) := by
  refine Met.enter (L0 := #[SR a0_, SR a1_]) (plainFor_of_name pn55) (fun m => ef9_0 m a0_ a1_) ?_
  intro p e s m below meth c s₁ hx hby hml hown hnm hret hlk hZ X0 e0
  have N0 := Fr.nil n0
  have Z0 := own_z0 O0
  have K0 : Keep h0 h0 [a0_, ed] := Keep.refl h0 _
  refine Go.st (t' := s₁.setTop (mkF m 2 #[SR a0_, SR a1_] [(.ref a0_), (.ref a0_)])) (fun target kt => ?_) ?_
  · refine XS.aloadN X0.here hx rfl (hb hby d9_0) rfl rfl ?_
    refine XS.dup X0.here hx rfl (hb hby d9_1) rfl rfl ?_
    exact kt
  obtain ⟨T10, X10, e10, st10⟩ := getF X0 hx hZ hown (host := "") (Or.inl (hw _ tw74)) (Via.of (hw _ tw75)) e0 F_m (g := (mkF m 2 #[SR a0_, SR a1_] [(.ref a0_), (.ref a0_)])) rfl rfl (hb hby d9_2)
  refine Go.st st10 ?_
  refine Go.st (t' := T10.setTop (mkF m 7 #[SR a0_, SR a1_] [(.int (pmc + (1 : Int32))), (.ref a0_)])) (fun target kt => ?_) ?_
  · refine XS.iconst X10.here hx rfl (hb hby d9_5) ?_
    refine XS.iadd X10.here hx rfl (hb hby d9_6) rfl ?_
    exact kt
  obtain ⟨T11, h11, X11, e11, W11, st11⟩ := putF X10 hx hZ hown (host := "") (Or.inl (hw _ tw74)) (Via.of (hw _ tw75)) e10 F_m E0 (Or.inl (hw _ tw65)) (hw _ tw46) (ty := .int) (by decide) rfl rfl (g := (mkF m 7 #[SR a0_, SR a1_] [(.int (pmc + (1 : Int32))), (.ref a0_)])) rfl rfl (hb hby d9_7)
  have F12 : Fld Z h11 a0_ sq13 "modCount" "I" (.int (pmc + (1 : Int32))) := F_m.same W11
  have K13 := K0.wr W11 (Or.inl mI0)
  have O14 := O0.wr W11 g0
  have N11 := Fr.snoc X11 N0 g0
  refine Go.st st11 ?_
  refine Go.st (t' := T11.setTop (mkF m 13 #[SR a0_, SR a1_] [(.ref a0_), (.ref a1_), (.ref a0_)])) (fun target kt => ?_) ?_
  · refine XS.aloadN X11.here hx rfl (hb hby d9_10) rfl rfl ?_
    refine XS.aloadN X11.here hx rfl (hb hby d9_11) rfl rfl ?_
    refine XS.aloadN X11.here hx rfl (hb hby d9_12) rfl rfl ?_
    exact kt
  have c15 := F_d.other W11 (Or.inr (slot_ne (Or.inl (hw _ tw68)) (Or.inl (hw _ tw65)) (by decide) (t := (.array (.object sq1))) (t' := .int) (by decide) (by decide)))
  obtain ⟨T16, X16, e16, st16⟩ := getF X11 hx hZ hown (host := "") (Or.inl (hw _ tw67)) Via.refl e11 c15 (g := (mkF m 13 #[SR a0_, SR a1_] [(.ref a0_), (.ref a1_), (.ref a0_)])) rfl rfl (hb hby d9_13)
  refine Go.st st16 ?_
  refine Go.st (t' := T16.setTop (mkF m 17 #[SR a0_, SR a1_] [(.ref a0_), (.ref ed), (.ref a1_), (.ref a0_)])) (fun target kt => ?_) ?_
  · refine XS.aloadN X16.here hx rfl (hb hby d9_16) rfl rfl ?_
    exact kt
  have c17 := F_s.other W11 (Or.inr (slot_ne (Or.inl (hw _ tw77)) (Or.inl (hw _ tw65)) (by decide) (t := .int) (t' := .int) (by decide) (by decide)))
  obtain ⟨T18, X18, e18, st18⟩ := getF X16 hx hZ hown (host := "") (Or.inl (hw _ tw76)) Via.refl e16 c17 (g := (mkF m 17 #[SR a0_, SR a1_] [(.ref a0_), (.ref ed), (.ref a1_), (.ref a0_)])) rfl rfl (hb hby d9_17)
  refine Go.st st18 ?_
  have c19 := E0.keep K13
  have c20 := E_d.keep K13
  have c21 := V_d.other W11 (Ne.symm nd)
  have c22 := I_x.keep K13
  refine Go.cps (own_cp (W := 0) (b := a0_) (argsL := [(.ref a1_), (.ref ed), (.int 1)]) (rest := []) X18 hx hZ hown (hw _ tw78) (hw _ tw79) (hw _ tw81) (hw _ tw80) (hw _ tw82) (hw _ tw47) (by decide) e18 c19 (rm10_1 l Z a0 hw [] a0_ a1_ ed ke y0 (pmc + (1 : Int32)) h11 n0 O14  c19 c15 c17 F12 c20 c21 g0 gd nd ov c22) rfl (by rw [hml]; rfl) (lenOf pd5 rfl) rfl (Nat.le_of_eq rfl) (hb hby d9_20) rfl (by decide)) ?_
  rintro T23 _ L23 X23 ⟨rfl, Nq23, Kq23, q24, q25, q26, q27, q28, q29⟩
  have N23 := Fr.app N11 Nq23
  have K30 := K13.trans Kq23 (allS (Or.inl mI0) (allS (Or.inl mI1) all0))
  have O31 := O14.keep Kq23 (allS g0 (allS gd all0))
  refine Go.st (t' := T23.setTop (mkF m 24 #[SR a0_, SR a1_] [(.int 1)])) (fun target kt => ?_) ?_
  · refine XS.iconst X23.here hx rfl (hb hby d9_23) ?_
    exact kt
  refine Go.ret X23 (v := some (.int 1)) (fun h => by rw [hret] at h; cases h) hlk (fun fs hr => retN X23 hx (t := .boolean) hret (by simp) (hb hby d9_24) hr) ?_ (by decide) (by decide)
  show Q9_1 Z a0_ a1_ ed ke y0 pmc h0 n0 _ T23.heap _
  exact ⟨rfl, N23, K30, q24, q25, q26, q27, q28, q29⟩
theorem ef10_2 (m : MethodId) (x0 : Addr) (x1 : Addr) (x2 : Addr) : entryFrame m #[(.ref x0), (.ref x1), (.ref x2), (.int 2)] 4 = mkF m 0 #[SR x0, SR x1, SR x2, SI 2] [] := by first | (simp [entryFrame, mkF, argsToLocals, Value.category]; done) | rfl
def Q10_2 (Z : State) (a0_ : Addr) (a1_ : Addr) (ed : Addr) (ke : ClassId) (y0 : Addr) (y1 : Addr) (pmc : Int32) (h0 : Heap) (n0 : Nat) (v : Option Value) (h : Heap) (L : List Loc) : Prop := v = none ∧ Fr n0 L ∧ Keep h0 h [a0_, ed] ∧ Exa Z h a0_ sq0 ∧ Fld Z h a0_ sq0 sq10 sq2 (.ref ed) ∧ Fld Z h a0_ sq0 "size" "I" (.int 3) ∧ Fld Z h a0_ sq13 "modCount" "I" (.int pmc) ∧ Exa Z h ed sq2 ∧ Arv Z h ed ke (.object sq1) (10 : Int32) [(.ref y0), (.ref y1), (.ref a1_), .null] .null
theorem rm10_2 (l : Launch) (Z : State) (a0 : Array Value) (hw : ∀ d ∈ tables_1, d.before a0 Z = true) (ws : List Jvm.Cond) (a0_ : Addr) (a1_ : Addr) (ed : Addr) (ke : ClassId) (y0 : Addr) (y1 : Addr) (pmc : Int32) (h0 : Heap) (n0 : Nat) (O0 : Old Z n0 h0) (E0 : Exa Z h0 a0_ sq0) (F_d : Fld Z h0 a0_ sq0 sq10 sq2 (.ref ed)) (F_s : Fld Z h0 a0_ sq0 "size" "I" (.int 2)) (F_m : Fld Z h0 a0_ sq13 "modCount" "I" (.int pmc)) (E_d : Exa Z h0 ed sq2) (V_d : Arv Z h0 ed ke (.object sq1) (10 : Int32) [(.ref y0), (.ref y1), .null, .null] .null) (g0 : n0 ≤ a0_) (gd : n0 ≤ ed) (nd : a0_ ≠ ed) (ov : Ovr Z ke sq1) (I_x : Ins Z h0 a1_ sq1 true) :
    Met l Z ws mm8 jdk_38_method_24_code 4 none (Rm 0 0 0 0) #[(.ref a0_), (.ref a1_), (.ref ed), (.int 2)] h0 (Q10_2 Z a0_ a1_ ed ke y0 y1 pmc h0 n0) := by
  refine Met.enter (L0 := #[SR a0_, SR a1_, SR ed, SI 2]) (plainFor_of_name pn55) (fun m => ef10_2 m a0_ a1_ ed) ?_
  intro p e s m below meth c s₁ hx hby hml hown hnm hret hlk hZ X0 e0
  have N0 := Fr.nil n0
  have Z0 := own_z0 O0
  have K0 : Keep h0 h0 [a0_, ed] := Keep.refl h0 _
  obtain ⟨cl10, Ar10, -, S10, M10, -, -⟩ := id V_d
  refine Go.st (t' := s₁.setTop (mkF m 14 #[SR a0_, SR a1_, SR ed, SI 2] [(.ref a1_), (.int 2), (.ref ed)])) (fun target kt => ?_) ?_
  · refine XS.iloadN X0.here hx rfl (hb hby d10_0) rfl ?_
    refine XS.aloadN X0.here hx rfl (hb hby d10_1) rfl rfl ?_
    refine X0.arraylength hx (by rw [e0]; exact Ar10.1) (State.isArrayOf_alike hZ.alike Ar10.2.1) (g := (mkF m 2 #[SR a0_, SR a1_, SR ed, SI 2] [(.ref ed), (.int 2)])) rfl rfl (hb hby d10_2) _ ?_
    rw [len_of S10 M10]
    refine XS.icmpYes X0.here hx rfl (pc0 := 3) (pc' := 11) rfl (hb hby d10_3) rfl (feq (by decide : ¬ ((2 : Int32) = (10 : Int32)))).2 (by decide) (by decide) ?_
    refine XS.aloadN X0.here hx rfl (hb hby d10_11) rfl rfl ?_
    refine XS.iloadN X0.here hx rfl (hb hby d10_12) rfl ?_
    refine XS.aloadN X0.here hx rfl (hb hby d10_13) rfl rfl ?_
    exact kt
  obtain ⟨cl11, Ar11, q11, S11, M11, H11, G11⟩ := id V_d
  have hin11 : ¬ ((2 : Int32) < 0 ∨ cl11.slots.size ≤ ((2 : Int32)).toNatClampNeg) := inb_of S11 ⟨by decide, by decide⟩
  obtain ⟨T11, h11, X11, e11, W11, st11⟩ := stR X0 hx hZ e0 Ar11 (j := (2 : Int32)) hin11 rfl (Sto.ofV Ar11 q11 ov I_x) (g := (mkF m 14 #[SR a0_, SR a1_, SR ed, SI 2] [(.ref a1_), (.int 2), (.ref ed)])) rfl rfl (hb hby d10_14)
  have V12 : Arv Z h11 ed ke (.object sq1) (10 : Int32) [(.ref y0), (.ref y1), (.ref a1_), .null] .null := Arv.set Ar11 q11 S11 M11 H11 G11 rfl W11 2 rfl (Nat.le_of_ble_eq_true rfl)
  have K13 := K0.wr W11 (Or.inl mI1)
  have O14 := O0.wr W11 gd
  have N11 := Fr.snoc X11 N0 gd
  refine Go.st st11 ?_
  refine Go.st (t' := T11.setTop (mkF m 19 #[SR a0_, SR a1_, SR ed, SI 2] [(.int 3), (.ref a0_)])) (fun target kt => ?_) ?_
  · refine XS.aloadN X11.here hx rfl (hb hby d10_15) rfl rfl ?_
    refine XS.iloadN X11.here hx rfl (hb hby d10_16) rfl ?_
    refine XS.iconst X11.here hx rfl (hb hby d10_17) ?_
    refine XS.iadd X11.here hx rfl (hb hby d10_18) rfl ?_
    exact kt
  have c15 := F_s.other W11 (Or.inl nd)
  have c16 := E0.keep K13
  obtain ⟨T17, h17, X17, e17, W17, st17⟩ := putF X11 hx hZ hown (host := "") (Or.inl (hw _ tw76)) Via.refl e11 c15 c16 (Or.inl (hw _ tw77)) (hw _ tw46) (ty := .int) (by decide) rfl rfl (g := (mkF m 19 #[SR a0_, SR a1_, SR ed, SI 2] [(.int 3), (.ref a0_)])) rfl rfl (hb hby d10_19)
  have F18 : Fld Z h17 a0_ sq0 "size" "I" (.int 3) := c15.same W17
  have K19 := K13.wr W17 (Or.inl mI0)
  have O20 := O14.wr W17 g0
  have N17 := Fr.snoc X17 N11 g0
  refine Go.st st17 ?_
  have c21 := c16.wr W17
  have c22 := (F_d.other W11 (Or.inl nd)).other W17 (Or.inr (slot_ne (Or.inl (hw _ tw68)) (Or.inl (hw _ tw77)) (by decide) (t := (.array (.object sq1))) (t' := .int) (by decide) (by decide)))
  have c23 := (F_m.other W11 (Or.inl nd)).other W17 (Or.inr (slot_ne (Or.inl (hw _ tw65)) (Or.inl (hw _ tw77)) (by decide) (t := .int) (t' := .int) (by decide) (by decide)))
  have c24 := E_d.keep K19
  have c25 := V12.other W17 (Ne.symm nd)
  refine Go.ret X17 (v := none) (fun _ => rfl) hlk (fun fs hr => X17.returnOut hx hret (hb hby d10_22) hr) ?_ (by decide) (by decide)
  show Q10_2 Z a0_ a1_ ed ke y0 y1 pmc h0 n0 _ T17.heap _
  rw [e17]
  exact ⟨rfl, N17, K19, c21, c22, F18, c23, c24, c25⟩
def Q9_2 (Z : State) (a0_ : Addr) (a1_ : Addr) (ed : Addr) (ke : ClassId) (y0 : Addr) (y1 : Addr) (pmc : Int32) (h0 : Heap) (n0 : Nat) (v : Option Value) (h : Heap) (L : List Loc) : Prop := v = some (.int 1) ∧ Fr n0 L ∧ Keep h0 h [a0_, ed] ∧ Exa Z h a0_ sq0 ∧ Fld Z h a0_ sq0 sq10 sq2 (.ref ed) ∧ Fld Z h a0_ sq0 "size" "I" (.int 3) ∧ Fld Z h a0_ sq13 "modCount" "I" (.int (pmc + (1 : Int32))) ∧ Exa Z h ed sq2 ∧ Arv Z h ed ke (.object sq1) (10 : Int32) [(.ref y0), (.ref y1), (.ref a1_), .null] .null
theorem rm9_2 (l : Launch) (Z : State) (a0 : Array Value) (hw : ∀ d ∈ tables_1, d.before a0 Z = true) (ws : List Jvm.Cond) (a0_ : Addr) (a1_ : Addr) (ed : Addr) (ke : ClassId) (y0 : Addr) (y1 : Addr) (pmc : Int32) (h0 : Heap) (n0 : Nat) (O0 : Old Z n0 h0) (E0 : Exa Z h0 a0_ sq0) (F_d : Fld Z h0 a0_ sq0 sq10 sq2 (.ref ed)) (F_s : Fld Z h0 a0_ sq0 "size" "I" (.int 2)) (F_m : Fld Z h0 a0_ sq13 "modCount" "I" (.int pmc)) (E_d : Exa Z h0 ed sq2) (V_d : Arv Z h0 ed ke (.object sq1) (10 : Int32) [(.ref y0), (.ref y1), .null, .null] .null) (g0 : n0 ≤ a0_) (gd : n0 ≤ ed) (nd : a0_ ≠ ed) (ov : Ovr Z ke sq1) (I_x : Ins Z h0 a1_ sq1 true) :
    Met l Z ws mm9 jdk_38_method_25_code 2 (some .boolean) (Rm 1 0 0 15) #[(.ref a0_), (.ref a1_)] h0 (Q9_2 Z a0_ a1_ ed ke y0 y1 pmc h0 n0) := by
  refine Met.enter (L0 := #[SR a0_, SR a1_]) (plainFor_of_name pn55) (fun m => ef9_0 m a0_ a1_) ?_
  intro p e s m below meth c s₁ hx hby hml hown hnm hret hlk hZ X0 e0
  have N0 := Fr.nil n0
  have Z0 := own_z0 O0
  have K0 : Keep h0 h0 [a0_, ed] := Keep.refl h0 _
  refine Go.st (t' := s₁.setTop (mkF m 2 #[SR a0_, SR a1_] [(.ref a0_), (.ref a0_)])) (fun target kt => ?_) ?_
  · refine XS.aloadN X0.here hx rfl (hb hby d9_0) rfl rfl ?_
    refine XS.dup X0.here hx rfl (hb hby d9_1) rfl rfl ?_
    exact kt
  obtain ⟨T10, X10, e10, st10⟩ := getF X0 hx hZ hown (host := "") (Or.inl (hw _ tw74)) (Via.of (hw _ tw75)) e0 F_m (g := (mkF m 2 #[SR a0_, SR a1_] [(.ref a0_), (.ref a0_)])) rfl rfl (hb hby d9_2)
  refine Go.st st10 ?_
  refine Go.st (t' := T10.setTop (mkF m 7 #[SR a0_, SR a1_] [(.int (pmc + (1 : Int32))), (.ref a0_)])) (fun target kt => ?_) ?_
  · refine XS.iconst X10.here hx rfl (hb hby d9_5) ?_
    refine XS.iadd X10.here hx rfl (hb hby d9_6) rfl ?_
    exact kt
  obtain ⟨T11, h11, X11, e11, W11, st11⟩ := putF X10 hx hZ hown (host := "") (Or.inl (hw _ tw74)) (Via.of (hw _ tw75)) e10 F_m E0 (Or.inl (hw _ tw65)) (hw _ tw46) (ty := .int) (by decide) rfl rfl (g := (mkF m 7 #[SR a0_, SR a1_] [(.int (pmc + (1 : Int32))), (.ref a0_)])) rfl rfl (hb hby d9_7)
  have F12 : Fld Z h11 a0_ sq13 "modCount" "I" (.int (pmc + (1 : Int32))) := F_m.same W11
  have K13 := K0.wr W11 (Or.inl mI0)
  have O14 := O0.wr W11 g0
  have N11 := Fr.snoc X11 N0 g0
  refine Go.st st11 ?_
  refine Go.st (t' := T11.setTop (mkF m 13 #[SR a0_, SR a1_] [(.ref a0_), (.ref a1_), (.ref a0_)])) (fun target kt => ?_) ?_
  · refine XS.aloadN X11.here hx rfl (hb hby d9_10) rfl rfl ?_
    refine XS.aloadN X11.here hx rfl (hb hby d9_11) rfl rfl ?_
    refine XS.aloadN X11.here hx rfl (hb hby d9_12) rfl rfl ?_
    exact kt
  have c15 := F_d.other W11 (Or.inr (slot_ne (Or.inl (hw _ tw68)) (Or.inl (hw _ tw65)) (by decide) (t := (.array (.object sq1))) (t' := .int) (by decide) (by decide)))
  obtain ⟨T16, X16, e16, st16⟩ := getF X11 hx hZ hown (host := "") (Or.inl (hw _ tw67)) Via.refl e11 c15 (g := (mkF m 13 #[SR a0_, SR a1_] [(.ref a0_), (.ref a1_), (.ref a0_)])) rfl rfl (hb hby d9_13)
  refine Go.st st16 ?_
  refine Go.st (t' := T16.setTop (mkF m 17 #[SR a0_, SR a1_] [(.ref a0_), (.ref ed), (.ref a1_), (.ref a0_)])) (fun target kt => ?_) ?_
  · refine XS.aloadN X16.here hx rfl (hb hby d9_16) rfl rfl ?_
    exact kt
  have c17 := F_s.other W11 (Or.inr (slot_ne (Or.inl (hw _ tw77)) (Or.inl (hw _ tw65)) (by decide) (t := .int) (t' := .int) (by decide) (by decide)))
  obtain ⟨T18, X18, e18, st18⟩ := getF X16 hx hZ hown (host := "") (Or.inl (hw _ tw76)) Via.refl e16 c17 (g := (mkF m 17 #[SR a0_, SR a1_] [(.ref a0_), (.ref ed), (.ref a1_), (.ref a0_)])) rfl rfl (hb hby d9_17)
  refine Go.st st18 ?_
  have c19 := E0.keep K13
  have c20 := E_d.keep K13
  have c21 := V_d.other W11 (Ne.symm nd)
  have c22 := I_x.keep K13
  refine Go.cps (own_cp (W := 0) (b := a0_) (argsL := [(.ref a1_), (.ref ed), (.int 2)]) (rest := []) X18 hx hZ hown (hw _ tw78) (hw _ tw79) (hw _ tw81) (hw _ tw80) (hw _ tw82) (hw _ tw47) (by decide) e18 c19 (rm10_2 l Z a0 hw [] a0_ a1_ ed ke y0 y1 (pmc + (1 : Int32)) h11 n0 O14  c19 c15 c17 F12 c20 c21 g0 gd nd ov c22) rfl (by rw [hml]; rfl) (lenOf pd5 rfl) rfl (Nat.le_of_eq rfl) (hb hby d9_20) rfl (by decide)) ?_
  rintro T23 _ L23 X23 ⟨rfl, Nq23, Kq23, q24, q25, q26, q27, q28, q29⟩
  have N23 := Fr.app N11 Nq23
  have K30 := K13.trans Kq23 (allS (Or.inl mI0) (allS (Or.inl mI1) all0))
  have O31 := O14.keep Kq23 (allS g0 (allS gd all0))
  refine Go.st (t' := T23.setTop (mkF m 24 #[SR a0_, SR a1_] [(.int 1)])) (fun target kt => ?_) ?_
  · refine XS.iconst X23.here hx rfl (hb hby d9_23) ?_
    exact kt
  refine Go.ret X23 (v := some (.int 1)) (fun h => by rw [hret] at h; cases h) hlk (fun fs hr => retN X23 hx (t := .boolean) hret (by simp) (hb hby d9_24) hr) ?_ (by decide) (by decide)
  show Q9_2 Z a0_ a1_ ed ke y0 y1 pmc h0 n0 _ T23.heap _
  exact ⟨rfl, N23, K30, q24, q25, q26, q27, q28, q29⟩
theorem d16_0 : decode zc37 0 = .ok (.aload_n 0, 1) := by decide +kernel
theorem d16_1 : decode zc37 1 = .ok (.getfield 48, 3) := by decide +kernel
theorem d16_4 : decode zc37 4 = .ok (.ireturn, 1) := by decide +kernel
def Q16 (Z : State) (a0_ : Addr) (psz : Int32) (h0 : Heap) (n0 : Nat) (v : Option Value) (h : Heap) (L : List Loc) : Prop := v = some (.int psz) ∧ Fr n0 L ∧ h = h0
theorem rm16 (l : Launch) (Z : State) (a0 : Array Value) (hw : ∀ d ∈ tables_1, d.before a0 Z = true) (ws : List Jvm.Cond) (a0_ : Addr) (psz : Int32) (h0 : Heap) (n0 : Nat) (O0 : Old Z n0 h0) (F_s : Fld Z h0 a0_ sq0 "size" "I" (.int psz)) :
    Met l Z ws (⟨sq0, "size", "()I"⟩ : MethodName) jdk_38_method_8_code 1 (some .int) (Rm 0 0 0 0) #[(.ref a0_)] h0 (Q16 Z a0_ psz h0 n0) := by
  refine Met.enter (L0 := #[SR a0_]) (plainFor_of_name pn55) (fun m => ef3 m a0_) ?_
  intro p e s m below meth c s₁ hx hby hml hown hnm hret hlk hZ X0 e0
  have N0 := Fr.nil n0
  have Z0 := own_z0 O0
  have K0 : Keep h0 h0 [] := Keep.refl h0 _
  refine Go.st (t' := s₁.setTop (mkF m 1 #[SR a0_] [(.ref a0_)])) (fun target kt => ?_) ?_
  · refine XS.aloadN X0.here hx rfl (hb hby d16_0) rfl rfl ?_
    exact kt
  obtain ⟨T10, X10, e10, st10⟩ := getF X0 hx hZ hown (host := "") (Or.inl (hw _ tw76)) Via.refl e0 F_s (g := (mkF m 1 #[SR a0_] [(.ref a0_)])) rfl rfl (hb hby d16_1)
  refine Go.st st10 ?_
  refine Go.ret X10 (v := some (.int psz)) (fun h => by rw [hret] at h; cases h) hlk (fun fs hr => retI X10 hx hret (hb hby d16_4) hr) ?_ (by decide) (by decide)
  show Q16 Z a0_ psz h0 n0 _ T10.heap _
  rw [e10]
  exact ⟨rfl, N0, rfl⟩
theorem d15_0 : decode zc20 0 = .ok (.aload_n 0, 1) := by decide +kernel
theorem d15_1 : decode zc20 1 = .ok (.getfield 48, 3) := by decide +kernel
theorem d15_4 : decode zc20 4 = .ok (.ifCond .ne 7, 3) := by decide +kernel
theorem d15_7 : decode zc20 7 = .ok (.iconst 1, 1) := by decide +kernel
theorem d15_8 : decode zc20 8 = .ok (.goto 4, 3) := by decide +kernel
theorem d15_12 : decode zc20 12 = .ok (.ireturn, 1) := by decide +kernel
def Q15_1 (Z : State) (a0_ : Addr) (psz : Int32) (h0 : Heap) (n0 : Nat) (v : Option Value) (h : Heap) (L : List Loc) : Prop := v = some (.int 1) ∧ Fr n0 L ∧ h = h0
theorem rm15_1 (l : Launch) (Z : State) (a0 : Array Value) (hw : ∀ d ∈ tables_1, d.before a0 Z = true) (ws : List Jvm.Cond) (a0_ : Addr) (psz : Int32) (h0 : Heap) (n0 : Nat) (O0 : Old Z n0 h0) (F_s : Fld Z h0 a0_ sq0 "size" "I" (.int psz)) (hcd0 : psz = (0 : Int32)) :
    Met l Z ws mm17 jdk_38_method_9_code 1 (some .boolean) (Rm 0 0 0 0) #[(.ref a0_)] h0 (Q15_1 Z a0_ psz h0 n0) := by
  refine Met.enter (L0 := #[SR a0_]) (plainFor_of_name pn55) (fun m => ef3 m a0_) ?_
  intro p e s m below meth c s₁ hx hby hml hown hnm hret hlk hZ X0 e0
  have N0 := Fr.nil n0
  have Z0 := own_z0 O0
  have K0 : Keep h0 h0 [] := Keep.refl h0 _
  refine Go.st (t' := s₁.setTop (mkF m 1 #[SR a0_] [(.ref a0_)])) (fun target kt => ?_) ?_
  · refine XS.aloadN X0.here hx rfl (hb hby d15_0) rfl rfl ?_
    exact kt
  obtain ⟨T10, X10, e10, st10⟩ := getF X0 hx hZ hown (host := "") (Or.inl (hw _ tw76)) Via.refl e0 F_s (g := (mkF m 1 #[SR a0_] [(.ref a0_)])) rfl rfl (hb hby d15_1)
  refine Go.st st10 ?_
  refine Go.st (t' := T10.setTop (mkF m 12 #[SR a0_] [(.int 1)])) (fun target kt => ?_) ?_
  · refine XS.ifNo X10.here hx rfl (hb hby d15_4) rfl ((if0 _ _).trans (teq hcd0).2) ?_
    refine XS.iconst X10.here hx rfl (hb hby d15_7) ?_
    refine XS.goto X10.here hx rfl (pc0 := 8) (pc' := 12) rfl (hb hby d15_8) (by decide) (by decide) ?_
    exact kt
  refine Go.ret X10 (v := some (.int 1)) (fun h => by rw [hret] at h; cases h) hlk (fun fs hr => retN X10 hx (t := .boolean) hret (by simp) (hb hby d15_12) hr) ?_ (by decide) (by decide)
  show Q15_1 Z a0_ psz h0 n0 _ T10.heap _
  rw [e10]
  exact ⟨rfl, N0, rfl⟩
theorem d15_11 : decode zc20 11 = .ok (.iconst 0, 1) := by decide +kernel
def Q15_0 (Z : State) (a0_ : Addr) (psz : Int32) (h0 : Heap) (n0 : Nat) (v : Option Value) (h : Heap) (L : List Loc) : Prop := v = some (.int 0) ∧ Fr n0 L ∧ h = h0
theorem rm15_0 (l : Launch) (Z : State) (a0 : Array Value) (hw : ∀ d ∈ tables_1, d.before a0 Z = true) (ws : List Jvm.Cond) (a0_ : Addr) (psz : Int32) (h0 : Heap) (n0 : Nat) (O0 : Old Z n0 h0) (F_s : Fld Z h0 a0_ sq0 "size" "I" (.int psz)) (hcd0 : ¬ (psz = (0 : Int32))) :
    Met l Z ws mm17 jdk_38_method_9_code 1 (some .boolean) (Rm 0 0 0 0) #[(.ref a0_)] h0 (Q15_0 Z a0_ psz h0 n0) := by
  refine Met.enter (L0 := #[SR a0_]) (plainFor_of_name pn55) (fun m => ef3 m a0_) ?_
  intro p e s m below meth c s₁ hx hby hml hown hnm hret hlk hZ X0 e0
  have N0 := Fr.nil n0
  have Z0 := own_z0 O0
  have K0 : Keep h0 h0 [] := Keep.refl h0 _
  refine Go.st (t' := s₁.setTop (mkF m 1 #[SR a0_] [(.ref a0_)])) (fun target kt => ?_) ?_
  · refine XS.aloadN X0.here hx rfl (hb hby d15_0) rfl rfl ?_
    exact kt
  obtain ⟨T10, X10, e10, st10⟩ := getF X0 hx hZ hown (host := "") (Or.inl (hw _ tw76)) Via.refl e0 F_s (g := (mkF m 1 #[SR a0_] [(.ref a0_)])) rfl rfl (hb hby d15_1)
  refine Go.st st10 ?_
  refine Go.st (t' := T10.setTop (mkF m 12 #[SR a0_] [(.int 0)])) (fun target kt => ?_) ?_
  · refine XS.ifYes X10.here hx rfl (pc0 := 4) (pc' := 11) rfl (hb hby d15_4) rfl ((if0 _ _).trans (feq hcd0).2) (by decide) (by decide) ?_
    refine XS.iconst X10.here hx rfl (hb hby d15_11) ?_
    exact kt
  refine Go.ret X10 (v := some (.int 0)) (fun h => by rw [hret] at h; cases h) hlk (fun fs hr => retN X10 hx (t := .boolean) hret (by simp) (hb hby d15_12) hr) ?_ (by decide) (by decide)
  show Q15_0 Z a0_ psz h0 n0 _ T10.heap _
  rw [e10]
  exact ⟨rfl, N0, rfl⟩
theorem d32_0 : decode zc21 0 = .ok (.iload_n 0, 1) := by decide +kernel
theorem d32_1 : decode zc21 1 = .ok (.ifCond .lt 8, 3) := by decide +kernel
theorem d32_4 : decode zc21 4 = .ok (.iload_n 0, 1) := by decide +kernel
theorem d32_5 : decode zc21 5 = .ok (.iload_n 1, 1) := by decide +kernel
theorem d32_6 : decode zc21 6 = .ok (.if_icmp .lt 10, 3) := by decide +kernel
theorem d32_16 : decode zc21 16 = .ok (.iload_n 0, 1) := by decide +kernel
theorem d32_17 : decode zc21 17 = .ok (.ireturn, 1) := by decide +kernel
theorem ef32_0_1 (m : MethodId)  : entryFrame m #[(.int 0), (.int 1), .null] 3 = mkF m 0 #[SI 0, SI 1, .val .null] [] := by first | (simp [entryFrame, mkF, argsToLocals, Value.category]; done) | rfl
def Q32_0_1 (Z : State)  (h0 : Heap) (n0 : Nat) (v : Option Value) (h : Heap) (L : List Loc) : Prop := v = some (.int 0) ∧ Fr n0 L ∧ h = h0
theorem pn136 : plainName "jdk/internal/util/Preconditions" = true := by first | (simp [plainName, overriddenIn]; done) | decide +kernel
theorem rm32_0_1 (l : Launch) (Z : State) (a0 : Array Value) (hw : ∀ d ∈ tables_1, d.before a0 Z = true) (ws : List Jvm.Cond)  (h0 : Heap) (n0 : Nat) (O0 : Old Z n0 h0) :
    Met l Z ws mm0 jdk_41_method_11_code 3 (some .int) (Rm 0 0 0 0) #[(.int 0), (.int 1), .null] h0 (Q32_0_1 Z  h0 n0) := by
  refine Met.enter (L0 := #[SI 0, SI 1, .val .null]) (plainFor_of_name pn136) (fun m => ef32_0_1 m ) ?_
  intro p e s m below meth c s₁ hx hby hml hown hnm hret hlk hZ X0 e0
  have N0 := Fr.nil n0
  have Z0 := own_z0 O0
  have K0 : Keep h0 h0 [] := Keep.refl h0 _
  refine Go.st (t' := s₁.setTop (mkF m 17 #[SI 0, SI 1, .val .null] [(.int 0)])) (fun target kt => ?_) ?_
  · refine XS.iloadN X0.here hx rfl (hb hby d32_0) rfl ?_
    refine XS.ifNo X0.here hx rfl (hb hby d32_1) rfl ((if0 _ _).trans (flt (by decide : ¬ ((0 : Int32) < (0 : Int32)))).1) ?_
    refine XS.iloadN X0.here hx rfl (hb hby d32_4) rfl ?_
    refine XS.iloadN X0.here hx rfl (hb hby d32_5) rfl ?_
    refine XS.icmpYes X0.here hx rfl (pc0 := 6) (pc' := 16) rfl (hb hby d32_6) rfl (tlt (by decide : (0 : Int32) < (1 : Int32))).1 (by decide) (by decide) ?_
    refine XS.iloadN X0.here hx rfl (hb hby d32_16) rfl ?_
    exact kt
  refine Go.ret X0 (v := some (.int 0)) (fun h => by rw [hret] at h; cases h) hlk (fun fs hr => retI X0 hx hret (hb hby d32_17) hr) ?_ (by decide) (by decide)
  show Q32_0_1 Z  h0 n0 _ s₁.heap _
  rw [e0]
  exact ⟨rfl, N0, rfl⟩
theorem d31_0 : decode zc29 0 = .ok (.iload_n 0, 1) := by decide +kernel
theorem d31_1 : decode zc29 1 = .ok (.iload_n 1, 1) := by decide +kernel
theorem d31_2 : decode zc29 2 = .ok (.aconst_null, 1) := by decide +kernel
theorem d31_3 : decode zc29 3 = .ok (.invokestatic 105, 3) := by decide +kernel
theorem tw233 : (Cond.methodLink sq24 105 ⟨sq39, "checkIndex", sq42⟩) ∈ tables_1 := mAt 233 rfl
theorem tw236 : (Cond.code ⟨sq39, "checkIndex", sq42⟩ jdk_41_method_11_code 3 (Option.some FieldType.int)) ∈ tables_1 := mAt 236 rfl
theorem tw235 : (Cond.initialized sq39) ∈ tables_1 := mAt 235 rfl
theorem pd6 : parseMethodDescriptor "(IILjava/util/function/BiFunction;)I" = some ⟨[.int, .int, (.object "java/util/function/BiFunction")], some .int⟩ := by decide +kernel
theorem tw234 : (Cond.static ⟨sq39, "checkIndex", sq42⟩) ∈ tables_1 := mAt 234 rfl
theorem d31_6 : decode zc29 6 = .ok (.ireturn, 1) := by decide +kernel
theorem ef31_0_1 (m : MethodId)  : entryFrame m #[(.int 0), (.int 1)] 2 = mkF m 0 #[SI 0, SI 1] [] := by first | (simp [entryFrame, mkF, argsToLocals, Value.category]; done) | rfl
def Q31_0_1 (Z : State)  (h0 : Heap) (n0 : Nat) (v : Option Value) (h : Heap) (L : List Loc) : Prop := v = some (.int 0) ∧ Fr n0 L ∧ h = h0
theorem pn142 : plainName "java/util/Objects" = true := by first | (simp [plainName, overriddenIn]; done) | decide +kernel
theorem rm31_0_1 (l : Launch) (Z : State) (a0 : Array Value) (hw : ∀ d ∈ tables_1, d.before a0 Z = true) (ws : List Jvm.Cond)  (h0 : Heap) (n0 : Nat) (O0 : Old Z n0 h0) :
    Met l Z ws mm1 jdk_31_method_17_code 2 (some .int) (Rm 1 0 0 14) #[(.int 0), (.int 1)] h0 (Q31_0_1 Z  h0 n0) := by
  refine Met.enter (L0 := #[SI 0, SI 1]) (plainFor_of_name pn142) (fun m => ef31_0_1 m ) ?_
  intro p e s m below meth c s₁ hx hby hml hown hnm hret hlk hZ X0 e0
  have N0 := Fr.nil n0
  have Z0 := own_z0 O0
  have K0 : Keep h0 h0 [] := Keep.refl h0 _
  refine Go.st (t' := s₁.setTop (mkF m 3 #[SI 0, SI 1] [.null, (.int 1), (.int 0)])) (fun target kt => ?_) ?_
  · refine XS.iloadN X0.here hx rfl (hb hby d31_0) rfl ?_
    refine XS.iloadN X0.here hx rfl (hb hby d31_1) rfl ?_
    refine XS.aconstNull X0.here hx rfl (hb hby d31_2) ?_
    exact kt
  refine Go.cps (own_cs (W := 0) (argsL := [(.int 0), (.int 1), .null]) (rest := []) X0 hx hZ hown (hw _ tw233) (hw _ tw234) (hw _ tw236) (hw _ tw235) (by decide) e0 (rm32_0_1 l Z a0 hw []  h0 n0 O0  ) rfl (by rw [hml]; rfl) (lenOf pd6 rfl) rfl (Nat.le_of_eq rfl) (hb hby d31_3) rfl (by decide)) ?_
  rintro T10 _ L10 X10 ⟨rfl, Nq10, eq10⟩
  have N10 := Fr.app N0 Nq10
  refine Go.ret X10 (v := some (.int 0)) (fun h => by rw [hret] at h; cases h) hlk (fun fs hr => retI X10 hx hret (hb hby d31_6) hr) ?_ (by decide) (by decide)
  show Q31_0_1 Z  h0 n0 _ T10.heap _
  rw [eq10]
  exact ⟨rfl, N10, rfl⟩
theorem d33_0 : decode zc30 0 = .ok (.aload_n 0, 1) := by decide +kernel
theorem d33_1 : decode zc30 1 = .ok (.getfield 9, 3) := by decide +kernel
theorem d33_4 : decode zc30 4 = .ok (.iload_n 1, 1) := by decide +kernel
theorem d33_5 : decode zc30 5 = .ok (.aaload, 1) := by decide +kernel
theorem d33_6 : decode zc30 6 = .ok (.areturn, 1) := by decide +kernel
theorem ef33_0_1 (m : MethodId) (x0 : Addr) : entryFrame m #[(.ref x0), (.int 0)] 2 = mkF m 0 #[SR x0, SI 0] [] := by first | (simp [entryFrame, mkF, argsToLocals, Value.category]; done) | rfl
def Q33_0_1 (Z : State) (a0_ : Addr) (ed : Addr) (ke : ClassId) (y0 : Addr) (h0 : Heap) (n0 : Nat) (v : Option Value) (h : Heap) (L : List Loc) : Prop := v = some (.ref y0) ∧ Fr n0 L ∧ h = h0
theorem rm33_0_1 (l : Launch) (Z : State) (a0 : Array Value) (hw : ∀ d ∈ tables_1, d.before a0 Z = true) (ws : List Jvm.Cond) (a0_ : Addr) (ed : Addr) (ke : ClassId) (y0 : Addr) (h0 : Heap) (n0 : Nat) (O0 : Old Z n0 h0) (E0 : Exa Z h0 a0_ sq0) (F_d : Fld Z h0 a0_ sq0 sq10 sq2 (.ref ed)) (F_s : Fld Z h0 a0_ sq0 "size" "I" (.int 1)) (V_d : Arv Z h0 ed ke (.object sq1) (10 : Int32) [(.ref y0), .null, .null, .null] .null) :
    Met l Z ws mm2 jdk_38_method_18_code 2 (some (.object sq1)) (Rm 0 0 0 0) #[(.ref a0_), (.int 0)] h0 (Q33_0_1 Z a0_ ed ke y0 h0 n0) := by
  refine Met.enter (L0 := #[SR a0_, SI 0]) (plainFor_of_name pn55) (fun m => ef33_0_1 m a0_) ?_
  intro p e s m below meth c s₁ hx hby hml hown hnm hret hlk hZ X0 e0
  have N0 := Fr.nil n0
  have Z0 := own_z0 O0
  have K0 : Keep h0 h0 [] := Keep.refl h0 _
  refine Go.st (t' := s₁.setTop (mkF m 1 #[SR a0_, SI 0] [(.ref a0_)])) (fun target kt => ?_) ?_
  · refine XS.aloadN X0.here hx rfl (hb hby d33_0) rfl rfl ?_
    exact kt
  obtain ⟨T10, X10, e10, st10⟩ := getF X0 hx hZ hown (host := "") (Or.inl (hw _ tw67)) Via.refl e0 F_d (g := (mkF m 1 #[SR a0_, SI 0] [(.ref a0_)])) rfl rfl (hb hby d33_1)
  refine Go.st st10 ?_
  obtain ⟨cl11, Ar11, -, S11, M11, H11, -⟩ := id V_d
  have hin11 : ¬ ((0 : Int32) < 0 ∨ cl11.slots.size ≤ ((0 : Int32)).toNatClampNeg) := inb_of S11 ⟨by decide, by decide⟩
  have hat11 : cl11.slots[((0 : Int32)).toNatClampNeg]? = some (.ref y0) := H11.at hin11 rfl
  refine Go.st (t' := T10.setTop (mkF m 6 #[SR a0_, SI 0] [(.ref y0)])) (fun target kt => ?_) ?_
  · refine XS.iloadN X10.here hx rfl (hb hby d33_4) rfl ?_
    refine X10.aaload hx (j := (0 : Int32)) (v := (.ref y0)) (by rw [e10]; exact Ar11.1) (State.isArrayOf_alike hZ.alike Ar11.2.1) rfl Ar11.2.2 hin11 hat11 (g := (mkF m 5 #[SR a0_, SI 0] [(.int 0), (.ref ed)])) rfl rfl (hb hby d33_5) _ ?_
    exact kt
  refine Go.ret X10 (v := some (.ref y0)) (fun h => by rw [hret] at h; cases h) hlk (fun fs hr => retR X10 hx hret rfl rfl (hb hby d33_6) hr) ?_ (by decide) (by decide)
  show Q33_0_1 Z a0_ ed ke y0 h0 n0 _ T10.heap _
  rw [e10]
  exact ⟨rfl, N0, rfl⟩
theorem d30_0 : decode zc15 0 = .ok (.iload_n 1, 1) := by decide +kernel
theorem d30_1 : decode zc15 1 = .ok (.aload_n 0, 1) := by decide +kernel
theorem d30_2 : decode zc15 2 = .ok (.getfield 48, 3) := by decide +kernel
theorem d30_5 : decode zc15 5 = .ok (.invokestatic 118, 3) := by decide +kernel
theorem tw230 : (Cond.methodLink sq0 118 ⟨sq24, "checkIndex", "(II)I"⟩) ∈ tables_1 := mAt 230 rfl
theorem tw232 : (Cond.code ⟨sq24, "checkIndex", "(II)I"⟩ jdk_31_method_17_code 2 (Option.some FieldType.int)) ∈ tables_1 := mAt 232 rfl
theorem tw200 : (Cond.initialized sq24) ∈ tables_1 := mAt 200 rfl
theorem tw231 : (Cond.static ⟨sq24, "checkIndex", "(II)I"⟩) ∈ tables_1 := mAt 231 rfl
theorem d30_8 : decode zc15 8 = .ok (.pop, 1) := by decide +kernel
theorem d30_9 : decode zc15 9 = .ok (.aload_n 0, 1) := by decide +kernel
theorem d30_10 : decode zc15 10 = .ok (.iload_n 1, 1) := by decide +kernel
theorem d30_11 : decode zc15 11 = .ok (.invokevirtual 123, 3) := by decide +kernel
theorem tw237 : (Cond.methodLink sq0 123 ⟨sq0, sq10, sq16⟩) ∈ tables_1 := mAt 237 rfl
theorem tw241 : (Cond.code ⟨sq0, sq10, sq16⟩ jdk_38_method_18_code 2 (Option.some (FieldType.object sq1))) ∈ tables_1 := mAt 241 rfl
theorem pd7 : parseMethodDescriptor "(I)Ljava/lang/Object;" = some ⟨[.int], some (.object "java/lang/Object")⟩ := by decide +kernel
theorem tw240 : (Cond.selects sq0 ⟨sq0, sq10, sq16⟩ ⟨sq0, sq10, sq16⟩) ∈ tables_1 := mAt 240 rfl
theorem tw238 : (Cond.declares ⟨sq0, sq10, sq16⟩) ∈ tables_1 := mAt 238 rfl
theorem tw239 : (Cond.instanceMethod ⟨sq0, sq10, sq16⟩) ∈ tables_1 := mAt 239 rfl
theorem d30_14 : decode zc15 14 = .ok (.areturn, 1) := by decide +kernel
def Q30_0_1 (Z : State) (a0_ : Addr) (ed : Addr) (ke : ClassId) (y0 : Addr) (h0 : Heap) (n0 : Nat) (v : Option Value) (h : Heap) (L : List Loc) : Prop := v = some (.ref y0) ∧ Fr n0 L ∧ h = h0
theorem rm30_0_1 (l : Launch) (Z : State) (a0 : Array Value) (hw : ∀ d ∈ tables_1, d.before a0 Z = true) (ws : List Jvm.Cond) (a0_ : Addr) (ed : Addr) (ke : ClassId) (y0 : Addr) (h0 : Heap) (n0 : Nat) (O0 : Old Z n0 h0) (E0 : Exa Z h0 a0_ sq0) (F_d : Fld Z h0 a0_ sq0 sq10 sq2 (.ref ed)) (F_s : Fld Z h0 a0_ sq0 "size" "I" (.int 1)) (V_d : Arv Z h0 ed ke (.object sq1) (10 : Int32) [(.ref y0), .null, .null, .null] .null) :
    Met l Z ws mm3 jdk_38_method_20_code 2 (some (.object sq1)) (Rm 2 0 0 27) #[(.ref a0_), (.int 0)] h0 (Q30_0_1 Z a0_ ed ke y0 h0 n0) := by
  refine Met.enter (L0 := #[SR a0_, SI 0]) (plainFor_of_name pn55) (fun m => ef33_0_1 m a0_) ?_
  intro p e s m below meth c s₁ hx hby hml hown hnm hret hlk hZ X0 e0
  have N0 := Fr.nil n0
  have Z0 := own_z0 O0
  have K0 : Keep h0 h0 [] := Keep.refl h0 _
  refine Go.st (t' := s₁.setTop (mkF m 2 #[SR a0_, SI 0] [(.ref a0_), (.int 0)])) (fun target kt => ?_) ?_
  · refine XS.iloadN X0.here hx rfl (hb hby d30_0) rfl ?_
    refine XS.aloadN X0.here hx rfl (hb hby d30_1) rfl rfl ?_
    exact kt
  obtain ⟨T10, X10, e10, st10⟩ := getF X0 hx hZ hown (host := "") (Or.inl (hw _ tw76)) Via.refl e0 F_s (g := (mkF m 2 #[SR a0_, SI 0] [(.ref a0_), (.int 0)])) rfl rfl (hb hby d30_2)
  refine Go.st st10 ?_
  refine Go.cps (own_cs (W := 0) (argsL := [(.int 0), (.int 1)]) (rest := []) X10 hx hZ hown (hw _ tw230) (hw _ tw231) (hw _ tw232) (hw _ tw200) (by decide) e10 (rm31_0_1 l Z a0 hw []  h0 n0 O0  ) rfl (by rw [hml]; rfl) (lenOf pd2 rfl) rfl (Nat.le_of_eq rfl) (hb hby d30_5) rfl (by decide)) ?_
  rintro T11 _ L11 X11 ⟨rfl, Nq11, eq11⟩
  have N11 := Fr.app N0 Nq11
  refine Go.st (t' := T11.setTop (mkF m 11 #[SR a0_, SI 0] [(.int 0), (.ref a0_)])) (fun target kt => ?_) ?_
  · refine XS.pop X11.here hx rfl (hb hby d30_8) rfl rfl ?_
    refine XS.aloadN X11.here hx rfl (hb hby d30_9) rfl rfl ?_
    refine XS.iloadN X11.here hx rfl (hb hby d30_10) rfl ?_
    exact kt
  refine Go.cps (own_cw (W := 0) (b := a0_) (argsL := [(.int 0)]) (rest := []) X11 hx hZ hown (hw _ tw237) (hw _ tw238) (hw _ tw240) (hw _ tw239) (hw _ tw241) (hw _ tw47) (by decide) eq11 E0 (rm33_0_1 l Z a0 hw [] a0_ ed ke y0 h0 n0 O0  E0 F_d F_s V_d) rfl (by rw [hml]; rfl) (lenOf pd7 rfl) rfl (Nat.le_of_eq rfl) (hb hby d30_11) rfl (by decide)) ?_
  rintro T12 _ L12 X12 ⟨rfl, Nq12, eq12⟩
  have N12 := Fr.app N11 Nq12
  refine Go.ret X12 (v := some (.ref y0)) (fun h => by rw [hret] at h; cases h) hlk (fun fs hr => retR X12 hx hret rfl rfl (hb hby d30_14) hr) ?_ (by decide) (by decide)
  show Q30_0_1 Z a0_ ed ke y0 h0 n0 _ T12.heap _
  rw [eq12]
  exact ⟨rfl, N12, rfl⟩
theorem ef32_0_2 (m : MethodId)  : entryFrame m #[(.int 0), (.int 2), .null] 3 = mkF m 0 #[SI 0, SI 2, .val .null] [] := by first | (simp [entryFrame, mkF, argsToLocals, Value.category]; done) | rfl
def Q32_0_2 (Z : State)  (h0 : Heap) (n0 : Nat) (v : Option Value) (h : Heap) (L : List Loc) : Prop := v = some (.int 0) ∧ Fr n0 L ∧ h = h0
theorem rm32_0_2 (l : Launch) (Z : State) (a0 : Array Value) (hw : ∀ d ∈ tables_1, d.before a0 Z = true) (ws : List Jvm.Cond)  (h0 : Heap) (n0 : Nat) (O0 : Old Z n0 h0) :
    Met l Z ws mm0 jdk_41_method_11_code 3 (some .int) (Rm 0 0 0 0) #[(.int 0), (.int 2), .null] h0 (Q32_0_2 Z  h0 n0) := by
  refine Met.enter (L0 := #[SI 0, SI 2, .val .null]) (plainFor_of_name pn136) (fun m => ef32_0_2 m ) ?_
  intro p e s m below meth c s₁ hx hby hml hown hnm hret hlk hZ X0 e0
  have N0 := Fr.nil n0
  have Z0 := own_z0 O0
  have K0 : Keep h0 h0 [] := Keep.refl h0 _
  refine Go.st (t' := s₁.setTop (mkF m 17 #[SI 0, SI 2, .val .null] [(.int 0)])) (fun target kt => ?_) ?_
  · refine XS.iloadN X0.here hx rfl (hb hby d32_0) rfl ?_
    refine XS.ifNo X0.here hx rfl (hb hby d32_1) rfl ((if0 _ _).trans (flt (by decide : ¬ ((0 : Int32) < (0 : Int32)))).1) ?_
    refine XS.iloadN X0.here hx rfl (hb hby d32_4) rfl ?_
    refine XS.iloadN X0.here hx rfl (hb hby d32_5) rfl ?_
    refine XS.icmpYes X0.here hx rfl (pc0 := 6) (pc' := 16) rfl (hb hby d32_6) rfl (tlt (by decide : (0 : Int32) < (2 : Int32))).1 (by decide) (by decide) ?_
    refine XS.iloadN X0.here hx rfl (hb hby d32_16) rfl ?_
    exact kt
  refine Go.ret X0 (v := some (.int 0)) (fun h => by rw [hret] at h; cases h) hlk (fun fs hr => retI X0 hx hret (hb hby d32_17) hr) ?_ (by decide) (by decide)
  show Q32_0_2 Z  h0 n0 _ s₁.heap _
  rw [e0]
  exact ⟨rfl, N0, rfl⟩
theorem ef31_0_2 (m : MethodId)  : entryFrame m #[(.int 0), (.int 2)] 2 = mkF m 0 #[SI 0, SI 2] [] := by first | (simp [entryFrame, mkF, argsToLocals, Value.category]; done) | rfl
def Q31_0_2 (Z : State)  (h0 : Heap) (n0 : Nat) (v : Option Value) (h : Heap) (L : List Loc) : Prop := v = some (.int 0) ∧ Fr n0 L ∧ h = h0
theorem rm31_0_2 (l : Launch) (Z : State) (a0 : Array Value) (hw : ∀ d ∈ tables_1, d.before a0 Z = true) (ws : List Jvm.Cond)  (h0 : Heap) (n0 : Nat) (O0 : Old Z n0 h0) :
    Met l Z ws mm1 jdk_31_method_17_code 2 (some .int) (Rm 1 0 0 14) #[(.int 0), (.int 2)] h0 (Q31_0_2 Z  h0 n0) := by
  refine Met.enter (L0 := #[SI 0, SI 2]) (plainFor_of_name pn142) (fun m => ef31_0_2 m ) ?_
  intro p e s m below meth c s₁ hx hby hml hown hnm hret hlk hZ X0 e0
  have N0 := Fr.nil n0
  have Z0 := own_z0 O0
  have K0 : Keep h0 h0 [] := Keep.refl h0 _
  refine Go.st (t' := s₁.setTop (mkF m 3 #[SI 0, SI 2] [.null, (.int 2), (.int 0)])) (fun target kt => ?_) ?_
  · refine XS.iloadN X0.here hx rfl (hb hby d31_0) rfl ?_
    refine XS.iloadN X0.here hx rfl (hb hby d31_1) rfl ?_
    refine XS.aconstNull X0.here hx rfl (hb hby d31_2) ?_
    exact kt
  refine Go.cps (own_cs (W := 0) (argsL := [(.int 0), (.int 2), .null]) (rest := []) X0 hx hZ hown (hw _ tw233) (hw _ tw234) (hw _ tw236) (hw _ tw235) (by decide) e0 (rm32_0_2 l Z a0 hw []  h0 n0 O0  ) rfl (by rw [hml]; rfl) (lenOf pd6 rfl) rfl (Nat.le_of_eq rfl) (hb hby d31_3) rfl (by decide)) ?_
  rintro T10 _ L10 X10 ⟨rfl, Nq10, eq10⟩
  have N10 := Fr.app N0 Nq10
  refine Go.ret X10 (v := some (.int 0)) (fun h => by rw [hret] at h; cases h) hlk (fun fs hr => retI X10 hx hret (hb hby d31_6) hr) ?_ (by decide) (by decide)
  show Q31_0_2 Z  h0 n0 _ T10.heap _
  rw [eq10]
  exact ⟨rfl, N10, rfl⟩
def Q33_0_2 (Z : State) (a0_ : Addr) (ed : Addr) (ke : ClassId) (y0 : Addr) (y1 : Addr) (h0 : Heap) (n0 : Nat) (v : Option Value) (h : Heap) (L : List Loc) : Prop := v = some (.ref y0) ∧ Fr n0 L ∧ h = h0
theorem rm33_0_2 (l : Launch) (Z : State) (a0 : Array Value) (hw : ∀ d ∈ tables_1, d.before a0 Z = true) (ws : List Jvm.Cond) (a0_ : Addr) (ed : Addr) (ke : ClassId) (y0 : Addr) (y1 : Addr) (h0 : Heap) (n0 : Nat) (O0 : Old Z n0 h0) (E0 : Exa Z h0 a0_ sq0) (F_d : Fld Z h0 a0_ sq0 sq10 sq2 (.ref ed)) (F_s : Fld Z h0 a0_ sq0 "size" "I" (.int 2)) (V_d : Arv Z h0 ed ke (.object sq1) (10 : Int32) [(.ref y0), (.ref y1), .null, .null] .null) :
    Met l Z ws mm2 jdk_38_method_18_code 2 (some (.object sq1)) (Rm 0 0 0 0) #[(.ref a0_), (.int 0)] h0 (Q33_0_2 Z a0_ ed ke y0 y1 h0 n0) := by
  refine Met.enter (L0 := #[SR a0_, SI 0]) (plainFor_of_name pn55) (fun m => ef33_0_1 m a0_) ?_
  intro p e s m below meth c s₁ hx hby hml hown hnm hret hlk hZ X0 e0
  have N0 := Fr.nil n0
  have Z0 := own_z0 O0
  have K0 : Keep h0 h0 [] := Keep.refl h0 _
  refine Go.st (t' := s₁.setTop (mkF m 1 #[SR a0_, SI 0] [(.ref a0_)])) (fun target kt => ?_) ?_
  · refine XS.aloadN X0.here hx rfl (hb hby d33_0) rfl rfl ?_
    exact kt
  obtain ⟨T10, X10, e10, st10⟩ := getF X0 hx hZ hown (host := "") (Or.inl (hw _ tw67)) Via.refl e0 F_d (g := (mkF m 1 #[SR a0_, SI 0] [(.ref a0_)])) rfl rfl (hb hby d33_1)
  refine Go.st st10 ?_
  obtain ⟨cl11, Ar11, -, S11, M11, H11, -⟩ := id V_d
  have hin11 : ¬ ((0 : Int32) < 0 ∨ cl11.slots.size ≤ ((0 : Int32)).toNatClampNeg) := inb_of S11 ⟨by decide, by decide⟩
  have hat11 : cl11.slots[((0 : Int32)).toNatClampNeg]? = some (.ref y0) := H11.at hin11 rfl
  refine Go.st (t' := T10.setTop (mkF m 6 #[SR a0_, SI 0] [(.ref y0)])) (fun target kt => ?_) ?_
  · refine XS.iloadN X10.here hx rfl (hb hby d33_4) rfl ?_
    refine X10.aaload hx (j := (0 : Int32)) (v := (.ref y0)) (by rw [e10]; exact Ar11.1) (State.isArrayOf_alike hZ.alike Ar11.2.1) rfl Ar11.2.2 hin11 hat11 (g := (mkF m 5 #[SR a0_, SI 0] [(.int 0), (.ref ed)])) rfl rfl (hb hby d33_5) _ ?_
    exact kt
  refine Go.ret X10 (v := some (.ref y0)) (fun h => by rw [hret] at h; cases h) hlk (fun fs hr => retR X10 hx hret rfl rfl (hb hby d33_6) hr) ?_ (by decide) (by decide)
  show Q33_0_2 Z a0_ ed ke y0 y1 h0 n0 _ T10.heap _
  rw [e10]
  exact ⟨rfl, N0, rfl⟩
def Q30_0_2 (Z : State) (a0_ : Addr) (ed : Addr) (ke : ClassId) (y0 : Addr) (y1 : Addr) (h0 : Heap) (n0 : Nat) (v : Option Value) (h : Heap) (L : List Loc) : Prop := v = some (.ref y0) ∧ Fr n0 L ∧ h = h0
theorem rm30_0_2 (l : Launch) (Z : State) (a0 : Array Value) (hw : ∀ d ∈ tables_1, d.before a0 Z = true) (ws : List Jvm.Cond) (a0_ : Addr) (ed : Addr) (ke : ClassId) (y0 : Addr) (y1 : Addr) (h0 : Heap) (n0 : Nat) (O0 : Old Z n0 h0) (E0 : Exa Z h0 a0_ sq0) (F_d : Fld Z h0 a0_ sq0 sq10 sq2 (.ref ed)) (F_s : Fld Z h0 a0_ sq0 "size" "I" (.int 2)) (V_d : Arv Z h0 ed ke (.object sq1) (10 : Int32) [(.ref y0), (.ref y1), .null, .null] .null) :
    Met l Z ws mm3 jdk_38_method_20_code 2 (some (.object sq1)) (Rm 2 0 0 27) #[(.ref a0_), (.int 0)] h0 (Q30_0_2 Z a0_ ed ke y0 y1 h0 n0) := by
  refine Met.enter (L0 := #[SR a0_, SI 0]) (plainFor_of_name pn55) (fun m => ef33_0_1 m a0_) ?_
  intro p e s m below meth c s₁ hx hby hml hown hnm hret hlk hZ X0 e0
  have N0 := Fr.nil n0
  have Z0 := own_z0 O0
  have K0 : Keep h0 h0 [] := Keep.refl h0 _
  refine Go.st (t' := s₁.setTop (mkF m 2 #[SR a0_, SI 0] [(.ref a0_), (.int 0)])) (fun target kt => ?_) ?_
  · refine XS.iloadN X0.here hx rfl (hb hby d30_0) rfl ?_
    refine XS.aloadN X0.here hx rfl (hb hby d30_1) rfl rfl ?_
    exact kt
  obtain ⟨T10, X10, e10, st10⟩ := getF X0 hx hZ hown (host := "") (Or.inl (hw _ tw76)) Via.refl e0 F_s (g := (mkF m 2 #[SR a0_, SI 0] [(.ref a0_), (.int 0)])) rfl rfl (hb hby d30_2)
  refine Go.st st10 ?_
  refine Go.cps (own_cs (W := 0) (argsL := [(.int 0), (.int 2)]) (rest := []) X10 hx hZ hown (hw _ tw230) (hw _ tw231) (hw _ tw232) (hw _ tw200) (by decide) e10 (rm31_0_2 l Z a0 hw []  h0 n0 O0  ) rfl (by rw [hml]; rfl) (lenOf pd2 rfl) rfl (Nat.le_of_eq rfl) (hb hby d30_5) rfl (by decide)) ?_
  rintro T11 _ L11 X11 ⟨rfl, Nq11, eq11⟩
  have N11 := Fr.app N0 Nq11
  refine Go.st (t' := T11.setTop (mkF m 11 #[SR a0_, SI 0] [(.int 0), (.ref a0_)])) (fun target kt => ?_) ?_
  · refine XS.pop X11.here hx rfl (hb hby d30_8) rfl rfl ?_
    refine XS.aloadN X11.here hx rfl (hb hby d30_9) rfl rfl ?_
    refine XS.iloadN X11.here hx rfl (hb hby d30_10) rfl ?_
    exact kt
  refine Go.cps (own_cw (W := 0) (b := a0_) (argsL := [(.int 0)]) (rest := []) X11 hx hZ hown (hw _ tw237) (hw _ tw238) (hw _ tw240) (hw _ tw239) (hw _ tw241) (hw _ tw47) (by decide) eq11 E0 (rm33_0_2 l Z a0 hw [] a0_ ed ke y0 y1 h0 n0 O0  E0 F_d F_s V_d) rfl (by rw [hml]; rfl) (lenOf pd7 rfl) rfl (Nat.le_of_eq rfl) (hb hby d30_11) rfl (by decide)) ?_
  rintro T12 _ L12 X12 ⟨rfl, Nq12, eq12⟩
  have N12 := Fr.app N11 Nq12
  refine Go.ret X12 (v := some (.ref y0)) (fun h => by rw [hret] at h; cases h) hlk (fun fs hr => retR X12 hx hret rfl rfl (hb hby d30_14) hr) ?_ (by decide) (by decide)
  show Q30_0_2 Z a0_ ed ke y0 y1 h0 n0 _ T12.heap _
  rw [eq12]
  exact ⟨rfl, N12, rfl⟩
theorem ef32_0_3 (m : MethodId)  : entryFrame m #[(.int 0), (.int 3), .null] 3 = mkF m 0 #[SI 0, SI 3, .val .null] [] := by first | (simp [entryFrame, mkF, argsToLocals, Value.category]; done) | rfl
def Q32_0_3 (Z : State)  (h0 : Heap) (n0 : Nat) (v : Option Value) (h : Heap) (L : List Loc) : Prop := v = some (.int 0) ∧ Fr n0 L ∧ h = h0
theorem rm32_0_3 (l : Launch) (Z : State) (a0 : Array Value) (hw : ∀ d ∈ tables_1, d.before a0 Z = true) (ws : List Jvm.Cond)  (h0 : Heap) (n0 : Nat) (O0 : Old Z n0 h0) :
    Met l Z ws mm0 jdk_41_method_11_code 3 (some .int) (Rm 0 0 0 0) #[(.int 0), (.int 3), .null] h0 (Q32_0_3 Z  h0 n0) := by
  refine Met.enter (L0 := #[SI 0, SI 3, .val .null]) (plainFor_of_name pn136) (fun m => ef32_0_3 m ) ?_
  intro p e s m below meth c s₁ hx hby hml hown hnm hret hlk hZ X0 e0
  have N0 := Fr.nil n0
  have Z0 := own_z0 O0
  have K0 : Keep h0 h0 [] := Keep.refl h0 _
  refine Go.st (t' := s₁.setTop (mkF m 17 #[SI 0, SI 3, .val .null] [(.int 0)])) (fun target kt => ?_) ?_
  · refine XS.iloadN X0.here hx rfl (hb hby d32_0) rfl ?_
    refine XS.ifNo X0.here hx rfl (hb hby d32_1) rfl ((if0 _ _).trans (flt (by decide : ¬ ((0 : Int32) < (0 : Int32)))).1) ?_
    refine XS.iloadN X0.here hx rfl (hb hby d32_4) rfl ?_
    refine XS.iloadN X0.here hx rfl (hb hby d32_5) rfl ?_
    refine XS.icmpYes X0.here hx rfl (pc0 := 6) (pc' := 16) rfl (hb hby d32_6) rfl (tlt (by decide : (0 : Int32) < (3 : Int32))).1 (by decide) (by decide) ?_
    refine XS.iloadN X0.here hx rfl (hb hby d32_16) rfl ?_
    exact kt
  refine Go.ret X0 (v := some (.int 0)) (fun h => by rw [hret] at h; cases h) hlk (fun fs hr => retI X0 hx hret (hb hby d32_17) hr) ?_ (by decide) (by decide)
  show Q32_0_3 Z  h0 n0 _ s₁.heap _
  rw [e0]
  exact ⟨rfl, N0, rfl⟩
theorem ef31_0_3 (m : MethodId)  : entryFrame m #[(.int 0), (.int 3)] 2 = mkF m 0 #[SI 0, SI 3] [] := by first | (simp [entryFrame, mkF, argsToLocals, Value.category]; done) | rfl
def Q31_0_3 (Z : State)  (h0 : Heap) (n0 : Nat) (v : Option Value) (h : Heap) (L : List Loc) : Prop := v = some (.int 0) ∧ Fr n0 L ∧ h = h0
theorem rm31_0_3 (l : Launch) (Z : State) (a0 : Array Value) (hw : ∀ d ∈ tables_1, d.before a0 Z = true) (ws : List Jvm.Cond)  (h0 : Heap) (n0 : Nat) (O0 : Old Z n0 h0) :
    Met l Z ws mm1 jdk_31_method_17_code 2 (some .int) (Rm 1 0 0 14) #[(.int 0), (.int 3)] h0 (Q31_0_3 Z  h0 n0) := by
  refine Met.enter (L0 := #[SI 0, SI 3]) (plainFor_of_name pn142) (fun m => ef31_0_3 m ) ?_
  intro p e s m below meth c s₁ hx hby hml hown hnm hret hlk hZ X0 e0
  have N0 := Fr.nil n0
  have Z0 := own_z0 O0
  have K0 : Keep h0 h0 [] := Keep.refl h0 _
  refine Go.st (t' := s₁.setTop (mkF m 3 #[SI 0, SI 3] [.null, (.int 3), (.int 0)])) (fun target kt => ?_) ?_
  · refine XS.iloadN X0.here hx rfl (hb hby d31_0) rfl ?_
    refine XS.iloadN X0.here hx rfl (hb hby d31_1) rfl ?_
    refine XS.aconstNull X0.here hx rfl (hb hby d31_2) ?_
    exact kt
  refine Go.cps (own_cs (W := 0) (argsL := [(.int 0), (.int 3), .null]) (rest := []) X0 hx hZ hown (hw _ tw233) (hw _ tw234) (hw _ tw236) (hw _ tw235) (by decide) e0 (rm32_0_3 l Z a0 hw []  h0 n0 O0  ) rfl (by rw [hml]; rfl) (lenOf pd6 rfl) rfl (Nat.le_of_eq rfl) (hb hby d31_3) rfl (by decide)) ?_
  rintro T10 _ L10 X10 ⟨rfl, Nq10, eq10⟩
  have N10 := Fr.app N0 Nq10
  refine Go.ret X10 (v := some (.int 0)) (fun h => by rw [hret] at h; cases h) hlk (fun fs hr => retI X10 hx hret (hb hby d31_6) hr) ?_ (by decide) (by decide)
  show Q31_0_3 Z  h0 n0 _ T10.heap _
  rw [eq10]
  exact ⟨rfl, N10, rfl⟩
def Q33_0_3 (Z : State) (a0_ : Addr) (ed : Addr) (ke : ClassId) (y0 : Addr) (y1 : Addr) (y2 : Addr) (h0 : Heap) (n0 : Nat) (v : Option Value) (h : Heap) (L : List Loc) : Prop := v = some (.ref y0) ∧ Fr n0 L ∧ h = h0
theorem rm33_0_3 (l : Launch) (Z : State) (a0 : Array Value) (hw : ∀ d ∈ tables_1, d.before a0 Z = true) (ws : List Jvm.Cond) (a0_ : Addr) (ed : Addr) (ke : ClassId) (y0 : Addr) (y1 : Addr) (y2 : Addr) (h0 : Heap) (n0 : Nat) (O0 : Old Z n0 h0) (E0 : Exa Z h0 a0_ sq0) (F_d : Fld Z h0 a0_ sq0 sq10 sq2 (.ref ed)) (F_s : Fld Z h0 a0_ sq0 "size" "I" (.int 3)) (V_d : Arv Z h0 ed ke (.object sq1) (10 : Int32) [(.ref y0), (.ref y1), (.ref y2), .null] .null) :
    Met l Z ws mm2 jdk_38_method_18_code 2 (some (.object sq1)) (Rm 0 0 0 0) #[(.ref a0_), (.int 0)] h0 (Q33_0_3 Z a0_ ed ke y0 y1 y2 h0 n0) := by
  refine Met.enter (L0 := #[SR a0_, SI 0]) (plainFor_of_name pn55) (fun m => ef33_0_1 m a0_) ?_
  intro p e s m below meth c s₁ hx hby hml hown hnm hret hlk hZ X0 e0
  have N0 := Fr.nil n0
  have Z0 := own_z0 O0
  have K0 : Keep h0 h0 [] := Keep.refl h0 _
  refine Go.st (t' := s₁.setTop (mkF m 1 #[SR a0_, SI 0] [(.ref a0_)])) (fun target kt => ?_) ?_
  · refine XS.aloadN X0.here hx rfl (hb hby d33_0) rfl rfl ?_
    exact kt
  obtain ⟨T10, X10, e10, st10⟩ := getF X0 hx hZ hown (host := "") (Or.inl (hw _ tw67)) Via.refl e0 F_d (g := (mkF m 1 #[SR a0_, SI 0] [(.ref a0_)])) rfl rfl (hb hby d33_1)
  refine Go.st st10 ?_
  obtain ⟨cl11, Ar11, -, S11, M11, H11, -⟩ := id V_d
  have hin11 : ¬ ((0 : Int32) < 0 ∨ cl11.slots.size ≤ ((0 : Int32)).toNatClampNeg) := inb_of S11 ⟨by decide, by decide⟩
  have hat11 : cl11.slots[((0 : Int32)).toNatClampNeg]? = some (.ref y0) := H11.at hin11 rfl
  refine Go.st (t' := T10.setTop (mkF m 6 #[SR a0_, SI 0] [(.ref y0)])) (fun target kt => ?_) ?_
  · refine XS.iloadN X10.here hx rfl (hb hby d33_4) rfl ?_
    refine X10.aaload hx (j := (0 : Int32)) (v := (.ref y0)) (by rw [e10]; exact Ar11.1) (State.isArrayOf_alike hZ.alike Ar11.2.1) rfl Ar11.2.2 hin11 hat11 (g := (mkF m 5 #[SR a0_, SI 0] [(.int 0), (.ref ed)])) rfl rfl (hb hby d33_5) _ ?_
    exact kt
  refine Go.ret X10 (v := some (.ref y0)) (fun h => by rw [hret] at h; cases h) hlk (fun fs hr => retR X10 hx hret rfl rfl (hb hby d33_6) hr) ?_ (by decide) (by decide)
  show Q33_0_3 Z a0_ ed ke y0 y1 y2 h0 n0 _ T10.heap _
  rw [e10]
  exact ⟨rfl, N0, rfl⟩
def Q30_0_3 (Z : State) (a0_ : Addr) (ed : Addr) (ke : ClassId) (y0 : Addr) (y1 : Addr) (y2 : Addr) (h0 : Heap) (n0 : Nat) (v : Option Value) (h : Heap) (L : List Loc) : Prop := v = some (.ref y0) ∧ Fr n0 L ∧ h = h0
theorem rm30_0_3 (l : Launch) (Z : State) (a0 : Array Value) (hw : ∀ d ∈ tables_1, d.before a0 Z = true) (ws : List Jvm.Cond) (a0_ : Addr) (ed : Addr) (ke : ClassId) (y0 : Addr) (y1 : Addr) (y2 : Addr) (h0 : Heap) (n0 : Nat) (O0 : Old Z n0 h0) (E0 : Exa Z h0 a0_ sq0) (F_d : Fld Z h0 a0_ sq0 sq10 sq2 (.ref ed)) (F_s : Fld Z h0 a0_ sq0 "size" "I" (.int 3)) (V_d : Arv Z h0 ed ke (.object sq1) (10 : Int32) [(.ref y0), (.ref y1), (.ref y2), .null] .null) :
    Met l Z ws mm3 jdk_38_method_20_code 2 (some (.object sq1)) (Rm 2 0 0 27) #[(.ref a0_), (.int 0)] h0 (Q30_0_3 Z a0_ ed ke y0 y1 y2 h0 n0) := by
  refine Met.enter (L0 := #[SR a0_, SI 0]) (plainFor_of_name pn55) (fun m => ef33_0_1 m a0_) ?_
  intro p e s m below meth c s₁ hx hby hml hown hnm hret hlk hZ X0 e0
  have N0 := Fr.nil n0
  have Z0 := own_z0 O0
  have K0 : Keep h0 h0 [] := Keep.refl h0 _
  refine Go.st (t' := s₁.setTop (mkF m 2 #[SR a0_, SI 0] [(.ref a0_), (.int 0)])) (fun target kt => ?_) ?_
  · refine XS.iloadN X0.here hx rfl (hb hby d30_0) rfl ?_
    refine XS.aloadN X0.here hx rfl (hb hby d30_1) rfl rfl ?_
    exact kt
  obtain ⟨T10, X10, e10, st10⟩ := getF X0 hx hZ hown (host := "") (Or.inl (hw _ tw76)) Via.refl e0 F_s (g := (mkF m 2 #[SR a0_, SI 0] [(.ref a0_), (.int 0)])) rfl rfl (hb hby d30_2)
  refine Go.st st10 ?_
  refine Go.cps (own_cs (W := 0) (argsL := [(.int 0), (.int 3)]) (rest := []) X10 hx hZ hown (hw _ tw230) (hw _ tw231) (hw _ tw232) (hw _ tw200) (by decide) e10 (rm31_0_3 l Z a0 hw []  h0 n0 O0  ) rfl (by rw [hml]; rfl) (lenOf pd2 rfl) rfl (Nat.le_of_eq rfl) (hb hby d30_5) rfl (by decide)) ?_
  rintro T11 _ L11 X11 ⟨rfl, Nq11, eq11⟩
  have N11 := Fr.app N0 Nq11
  refine Go.st (t' := T11.setTop (mkF m 11 #[SR a0_, SI 0] [(.int 0), (.ref a0_)])) (fun target kt => ?_) ?_
  · refine XS.pop X11.here hx rfl (hb hby d30_8) rfl rfl ?_
    refine XS.aloadN X11.here hx rfl (hb hby d30_9) rfl rfl ?_
    refine XS.iloadN X11.here hx rfl (hb hby d30_10) rfl ?_
    exact kt
  refine Go.cps (own_cw (W := 0) (b := a0_) (argsL := [(.int 0)]) (rest := []) X11 hx hZ hown (hw _ tw237) (hw _ tw238) (hw _ tw240) (hw _ tw239) (hw _ tw241) (hw _ tw47) (by decide) eq11 E0 (rm33_0_3 l Z a0 hw [] a0_ ed ke y0 y1 y2 h0 n0 O0  E0 F_d F_s V_d) rfl (by rw [hml]; rfl) (lenOf pd7 rfl) rfl (Nat.le_of_eq rfl) (hb hby d30_11) rfl (by decide)) ?_
  rintro T12 _ L12 X12 ⟨rfl, Nq12, eq12⟩
  have N12 := Fr.app N11 Nq12
  refine Go.ret X12 (v := some (.ref y0)) (fun h => by rw [hret] at h; cases h) hlk (fun fs hr => retR X12 hx hret rfl rfl (hb hby d30_14) hr) ?_ (by decide) (by decide)
  show Q30_0_3 Z a0_ ed ke y0 y1 y2 h0 n0 _ T12.heap _
  rw [eq12]
  exact ⟨rfl, N12, rfl⟩
theorem ef32_1_2 (m : MethodId)  : entryFrame m #[(.int 1), (.int 2), .null] 3 = mkF m 0 #[SI 1, SI 2, .val .null] [] := by first | (simp [entryFrame, mkF, argsToLocals, Value.category]; done) | rfl
def Q32_1_2 (Z : State)  (h0 : Heap) (n0 : Nat) (v : Option Value) (h : Heap) (L : List Loc) : Prop := v = some (.int 1) ∧ Fr n0 L ∧ h = h0
theorem rm32_1_2 (l : Launch) (Z : State) (a0 : Array Value) (hw : ∀ d ∈ tables_1, d.before a0 Z = true) (ws : List Jvm.Cond)  (h0 : Heap) (n0 : Nat) (O0 : Old Z n0 h0) :
    Met l Z ws mm0 jdk_41_method_11_code 3 (some .int) (Rm 0 0 0 0) #[(.int 1), (.int 2), .null] h0 (Q32_1_2 Z  h0 n0) := by
  refine Met.enter (L0 := #[SI 1, SI 2, .val .null]) (plainFor_of_name pn136) (fun m => ef32_1_2 m ) ?_
  intro p e s m below meth c s₁ hx hby hml hown hnm hret hlk hZ X0 e0
  have N0 := Fr.nil n0
  have Z0 := own_z0 O0
  have K0 : Keep h0 h0 [] := Keep.refl h0 _
  refine Go.st (t' := s₁.setTop (mkF m 17 #[SI 1, SI 2, .val .null] [(.int 1)])) (fun target kt => ?_) ?_
  · refine XS.iloadN X0.here hx rfl (hb hby d32_0) rfl ?_
    refine XS.ifNo X0.here hx rfl (hb hby d32_1) rfl ((if0 _ _).trans (flt (by decide : ¬ ((1 : Int32) < (0 : Int32)))).1) ?_
    refine XS.iloadN X0.here hx rfl (hb hby d32_4) rfl ?_
    refine XS.iloadN X0.here hx rfl (hb hby d32_5) rfl ?_
    refine XS.icmpYes X0.here hx rfl (pc0 := 6) (pc' := 16) rfl (hb hby d32_6) rfl (tlt (by decide : (1 : Int32) < (2 : Int32))).1 (by decide) (by decide) ?_
    refine XS.iloadN X0.here hx rfl (hb hby d32_16) rfl ?_
    exact kt
  refine Go.ret X0 (v := some (.int 1)) (fun h => by rw [hret] at h; cases h) hlk (fun fs hr => retI X0 hx hret (hb hby d32_17) hr) ?_ (by decide) (by decide)
  show Q32_1_2 Z  h0 n0 _ s₁.heap _
  rw [e0]
  exact ⟨rfl, N0, rfl⟩
theorem ef31_1_2 (m : MethodId)  : entryFrame m #[(.int 1), (.int 2)] 2 = mkF m 0 #[SI 1, SI 2] [] := by first | (simp [entryFrame, mkF, argsToLocals, Value.category]; done) | rfl
def Q31_1_2 (Z : State)  (h0 : Heap) (n0 : Nat) (v : Option Value) (h : Heap) (L : List Loc) : Prop := v = some (.int 1) ∧ Fr n0 L ∧ h = h0
theorem rm31_1_2 (l : Launch) (Z : State) (a0 : Array Value) (hw : ∀ d ∈ tables_1, d.before a0 Z = true) (ws : List Jvm.Cond)  (h0 : Heap) (n0 : Nat) (O0 : Old Z n0 h0) :
    Met l Z ws mm1 jdk_31_method_17_code 2 (some .int) (Rm 1 0 0 14) #[(.int 1), (.int 2)] h0 (Q31_1_2 Z  h0 n0) := by
  refine Met.enter (L0 := #[SI 1, SI 2]) (plainFor_of_name pn142) (fun m => ef31_1_2 m ) ?_
  intro p e s m below meth c s₁ hx hby hml hown hnm hret hlk hZ X0 e0
  have N0 := Fr.nil n0
  have Z0 := own_z0 O0
  have K0 : Keep h0 h0 [] := Keep.refl h0 _
  refine Go.st (t' := s₁.setTop (mkF m 3 #[SI 1, SI 2] [.null, (.int 2), (.int 1)])) (fun target kt => ?_) ?_
  · refine XS.iloadN X0.here hx rfl (hb hby d31_0) rfl ?_
    refine XS.iloadN X0.here hx rfl (hb hby d31_1) rfl ?_
    refine XS.aconstNull X0.here hx rfl (hb hby d31_2) ?_
    exact kt
  refine Go.cps (own_cs (W := 0) (argsL := [(.int 1), (.int 2), .null]) (rest := []) X0 hx hZ hown (hw _ tw233) (hw _ tw234) (hw _ tw236) (hw _ tw235) (by decide) e0 (rm32_1_2 l Z a0 hw []  h0 n0 O0  ) rfl (by rw [hml]; rfl) (lenOf pd6 rfl) rfl (Nat.le_of_eq rfl) (hb hby d31_3) rfl (by decide)) ?_
  rintro T10 _ L10 X10 ⟨rfl, Nq10, eq10⟩
  have N10 := Fr.app N0 Nq10
  refine Go.ret X10 (v := some (.int 1)) (fun h => by rw [hret] at h; cases h) hlk (fun fs hr => retI X10 hx hret (hb hby d31_6) hr) ?_ (by decide) (by decide)
  show Q31_1_2 Z  h0 n0 _ T10.heap _
  rw [eq10]
  exact ⟨rfl, N10, rfl⟩
theorem ef33_1_2 (m : MethodId) (x0 : Addr) : entryFrame m #[(.ref x0), (.int 1)] 2 = mkF m 0 #[SR x0, SI 1] [] := by first | (simp [entryFrame, mkF, argsToLocals, Value.category]; done) | rfl
def Q33_1_2 (Z : State) (a0_ : Addr) (ed : Addr) (ke : ClassId) (y0 : Addr) (y1 : Addr) (h0 : Heap) (n0 : Nat) (v : Option Value) (h : Heap) (L : List Loc) : Prop := v = some (.ref y1) ∧ Fr n0 L ∧ h = h0
theorem rm33_1_2 (l : Launch) (Z : State) (a0 : Array Value) (hw : ∀ d ∈ tables_1, d.before a0 Z = true) (ws : List Jvm.Cond) (a0_ : Addr) (ed : Addr) (ke : ClassId) (y0 : Addr) (y1 : Addr) (h0 : Heap) (n0 : Nat) (O0 : Old Z n0 h0) (E0 : Exa Z h0 a0_ sq0) (F_d : Fld Z h0 a0_ sq0 sq10 sq2 (.ref ed)) (F_s : Fld Z h0 a0_ sq0 "size" "I" (.int 2)) (V_d : Arv Z h0 ed ke (.object sq1) (10 : Int32) [(.ref y0), (.ref y1), .null, .null] .null) :
    Met l Z ws mm2 jdk_38_method_18_code 2 (some (.object sq1)) (Rm 0 0 0 0) #[(.ref a0_), (.int 1)] h0 (Q33_1_2 Z a0_ ed ke y0 y1 h0 n0) := by
  refine Met.enter (L0 := #[SR a0_, SI 1]) (plainFor_of_name pn55) (fun m => ef33_1_2 m a0_) ?_
  intro p e s m below meth c s₁ hx hby hml hown hnm hret hlk hZ X0 e0
  have N0 := Fr.nil n0
  have Z0 := own_z0 O0
  have K0 : Keep h0 h0 [] := Keep.refl h0 _
  refine Go.st (t' := s₁.setTop (mkF m 1 #[SR a0_, SI 1] [(.ref a0_)])) (fun target kt => ?_) ?_
  · refine XS.aloadN X0.here hx rfl (hb hby d33_0) rfl rfl ?_
    exact kt
  obtain ⟨T10, X10, e10, st10⟩ := getF X0 hx hZ hown (host := "") (Or.inl (hw _ tw67)) Via.refl e0 F_d (g := (mkF m 1 #[SR a0_, SI 1] [(.ref a0_)])) rfl rfl (hb hby d33_1)
  refine Go.st st10 ?_
  obtain ⟨cl11, Ar11, -, S11, M11, H11, -⟩ := id V_d
  have hin11 : ¬ ((1 : Int32) < 0 ∨ cl11.slots.size ≤ ((1 : Int32)).toNatClampNeg) := inb_of S11 ⟨by decide, by decide⟩
  have hat11 : cl11.slots[((1 : Int32)).toNatClampNeg]? = some (.ref y1) := H11.at hin11 rfl
  refine Go.st (t' := T10.setTop (mkF m 6 #[SR a0_, SI 1] [(.ref y1)])) (fun target kt => ?_) ?_
  · refine XS.iloadN X10.here hx rfl (hb hby d33_4) rfl ?_
    refine X10.aaload hx (j := (1 : Int32)) (v := (.ref y1)) (by rw [e10]; exact Ar11.1) (State.isArrayOf_alike hZ.alike Ar11.2.1) rfl Ar11.2.2 hin11 hat11 (g := (mkF m 5 #[SR a0_, SI 1] [(.int 1), (.ref ed)])) rfl rfl (hb hby d33_5) _ ?_
    exact kt
  refine Go.ret X10 (v := some (.ref y1)) (fun h => by rw [hret] at h; cases h) hlk (fun fs hr => retR X10 hx hret rfl rfl (hb hby d33_6) hr) ?_ (by decide) (by decide)
  show Q33_1_2 Z a0_ ed ke y0 y1 h0 n0 _ T10.heap _
  rw [e10]
  exact ⟨rfl, N0, rfl⟩
def Q30_1_2 (Z : State) (a0_ : Addr) (ed : Addr) (ke : ClassId) (y0 : Addr) (y1 : Addr) (h0 : Heap) (n0 : Nat) (v : Option Value) (h : Heap) (L : List Loc) : Prop := v = some (.ref y1) ∧ Fr n0 L ∧ h = h0
theorem rm30_1_2 (l : Launch) (Z : State) (a0 : Array Value) (hw : ∀ d ∈ tables_1, d.before a0 Z = true) (ws : List Jvm.Cond) (a0_ : Addr) (ed : Addr) (ke : ClassId) (y0 : Addr) (y1 : Addr) (h0 : Heap) (n0 : Nat) (O0 : Old Z n0 h0) (E0 : Exa Z h0 a0_ sq0) (F_d : Fld Z h0 a0_ sq0 sq10 sq2 (.ref ed)) (F_s : Fld Z h0 a0_ sq0 "size" "I" (.int 2)) (V_d : Arv Z h0 ed ke (.object sq1) (10 : Int32) [(.ref y0), (.ref y1), .null, .null] .null) :
    Met l Z ws mm3 jdk_38_method_20_code 2 (some (.object sq1)) (Rm 2 0 0 27) #[(.ref a0_), (.int 1)] h0 (Q30_1_2 Z a0_ ed ke y0 y1 h0 n0) := by
  refine Met.enter (L0 := #[SR a0_, SI 1]) (plainFor_of_name pn55) (fun m => ef33_1_2 m a0_) ?_
  intro p e s m below meth c s₁ hx hby hml hown hnm hret hlk hZ X0 e0
  have N0 := Fr.nil n0
  have Z0 := own_z0 O0
  have K0 : Keep h0 h0 [] := Keep.refl h0 _
  refine Go.st (t' := s₁.setTop (mkF m 2 #[SR a0_, SI 1] [(.ref a0_), (.int 1)])) (fun target kt => ?_) ?_
  · refine XS.iloadN X0.here hx rfl (hb hby d30_0) rfl ?_
    refine XS.aloadN X0.here hx rfl (hb hby d30_1) rfl rfl ?_
    exact kt
  obtain ⟨T10, X10, e10, st10⟩ := getF X0 hx hZ hown (host := "") (Or.inl (hw _ tw76)) Via.refl e0 F_s (g := (mkF m 2 #[SR a0_, SI 1] [(.ref a0_), (.int 1)])) rfl rfl (hb hby d30_2)
  refine Go.st st10 ?_
  refine Go.cps (own_cs (W := 0) (argsL := [(.int 1), (.int 2)]) (rest := []) X10 hx hZ hown (hw _ tw230) (hw _ tw231) (hw _ tw232) (hw _ tw200) (by decide) e10 (rm31_1_2 l Z a0 hw []  h0 n0 O0  ) rfl (by rw [hml]; rfl) (lenOf pd2 rfl) rfl (Nat.le_of_eq rfl) (hb hby d30_5) rfl (by decide)) ?_
  rintro T11 _ L11 X11 ⟨rfl, Nq11, eq11⟩
  have N11 := Fr.app N0 Nq11
  refine Go.st (t' := T11.setTop (mkF m 11 #[SR a0_, SI 1] [(.int 1), (.ref a0_)])) (fun target kt => ?_) ?_
  · refine XS.pop X11.here hx rfl (hb hby d30_8) rfl rfl ?_
    refine XS.aloadN X11.here hx rfl (hb hby d30_9) rfl rfl ?_
    refine XS.iloadN X11.here hx rfl (hb hby d30_10) rfl ?_
    exact kt
  refine Go.cps (own_cw (W := 0) (b := a0_) (argsL := [(.int 1)]) (rest := []) X11 hx hZ hown (hw _ tw237) (hw _ tw238) (hw _ tw240) (hw _ tw239) (hw _ tw241) (hw _ tw47) (by decide) eq11 E0 (rm33_1_2 l Z a0 hw [] a0_ ed ke y0 y1 h0 n0 O0  E0 F_d F_s V_d) rfl (by rw [hml]; rfl) (lenOf pd7 rfl) rfl (Nat.le_of_eq rfl) (hb hby d30_11) rfl (by decide)) ?_
  rintro T12 _ L12 X12 ⟨rfl, Nq12, eq12⟩
  have N12 := Fr.app N11 Nq12
  refine Go.ret X12 (v := some (.ref y1)) (fun h => by rw [hret] at h; cases h) hlk (fun fs hr => retR X12 hx hret rfl rfl (hb hby d30_14) hr) ?_ (by decide) (by decide)
  show Q30_1_2 Z a0_ ed ke y0 y1 h0 n0 _ T12.heap _
  rw [eq12]
  exact ⟨rfl, N12, rfl⟩
theorem ef32_1_3 (m : MethodId)  : entryFrame m #[(.int 1), (.int 3), .null] 3 = mkF m 0 #[SI 1, SI 3, .val .null] [] := by first | (simp [entryFrame, mkF, argsToLocals, Value.category]; done) | rfl
def Q32_1_3 (Z : State)  (h0 : Heap) (n0 : Nat) (v : Option Value) (h : Heap) (L : List Loc) : Prop := v = some (.int 1) ∧ Fr n0 L ∧ h = h0
theorem rm32_1_3 (l : Launch) (Z : State) (a0 : Array Value) (hw : ∀ d ∈ tables_1, d.before a0 Z = true) (ws : List Jvm.Cond)  (h0 : Heap) (n0 : Nat) (O0 : Old Z n0 h0) :
    Met l Z ws mm0 jdk_41_method_11_code 3 (some .int) (Rm 0 0 0 0) #[(.int 1), (.int 3), .null] h0 (Q32_1_3 Z  h0 n0) := by
  refine Met.enter (L0 := #[SI 1, SI 3, .val .null]) (plainFor_of_name pn136) (fun m => ef32_1_3 m ) ?_
  intro p e s m below meth c s₁ hx hby hml hown hnm hret hlk hZ X0 e0
  have N0 := Fr.nil n0
  have Z0 := own_z0 O0
  have K0 : Keep h0 h0 [] := Keep.refl h0 _
  refine Go.st (t' := s₁.setTop (mkF m 17 #[SI 1, SI 3, .val .null] [(.int 1)])) (fun target kt => ?_) ?_
  · refine XS.iloadN X0.here hx rfl (hb hby d32_0) rfl ?_
    refine XS.ifNo X0.here hx rfl (hb hby d32_1) rfl ((if0 _ _).trans (flt (by decide : ¬ ((1 : Int32) < (0 : Int32)))).1) ?_
    refine XS.iloadN X0.here hx rfl (hb hby d32_4) rfl ?_
    refine XS.iloadN X0.here hx rfl (hb hby d32_5) rfl ?_
    refine XS.icmpYes X0.here hx rfl (pc0 := 6) (pc' := 16) rfl (hb hby d32_6) rfl (tlt (by decide : (1 : Int32) < (3 : Int32))).1 (by decide) (by decide) ?_
    refine XS.iloadN X0.here hx rfl (hb hby d32_16) rfl ?_
    exact kt
  refine Go.ret X0 (v := some (.int 1)) (fun h => by rw [hret] at h; cases h) hlk (fun fs hr => retI X0 hx hret (hb hby d32_17) hr) ?_ (by decide) (by decide)
  show Q32_1_3 Z  h0 n0 _ s₁.heap _
  rw [e0]
  exact ⟨rfl, N0, rfl⟩
theorem ef31_1_3 (m : MethodId)  : entryFrame m #[(.int 1), (.int 3)] 2 = mkF m 0 #[SI 1, SI 3] [] := by first | (simp [entryFrame, mkF, argsToLocals, Value.category]; done) | rfl
def Q31_1_3 (Z : State)  (h0 : Heap) (n0 : Nat) (v : Option Value) (h : Heap) (L : List Loc) : Prop := v = some (.int 1) ∧ Fr n0 L ∧ h = h0
theorem rm31_1_3 (l : Launch) (Z : State) (a0 : Array Value) (hw : ∀ d ∈ tables_1, d.before a0 Z = true) (ws : List Jvm.Cond)  (h0 : Heap) (n0 : Nat) (O0 : Old Z n0 h0) :
    Met l Z ws mm1 jdk_31_method_17_code 2 (some .int) (Rm 1 0 0 14) #[(.int 1), (.int 3)] h0 (Q31_1_3 Z  h0 n0) := by
  refine Met.enter (L0 := #[SI 1, SI 3]) (plainFor_of_name pn142) (fun m => ef31_1_3 m ) ?_
  intro p e s m below meth c s₁ hx hby hml hown hnm hret hlk hZ X0 e0
  have N0 := Fr.nil n0
  have Z0 := own_z0 O0
  have K0 : Keep h0 h0 [] := Keep.refl h0 _
  refine Go.st (t' := s₁.setTop (mkF m 3 #[SI 1, SI 3] [.null, (.int 3), (.int 1)])) (fun target kt => ?_) ?_
  · refine XS.iloadN X0.here hx rfl (hb hby d31_0) rfl ?_
    refine XS.iloadN X0.here hx rfl (hb hby d31_1) rfl ?_
    refine XS.aconstNull X0.here hx rfl (hb hby d31_2) ?_
    exact kt
  refine Go.cps (own_cs (W := 0) (argsL := [(.int 1), (.int 3), .null]) (rest := []) X0 hx hZ hown (hw _ tw233) (hw _ tw234) (hw _ tw236) (hw _ tw235) (by decide) e0 (rm32_1_3 l Z a0 hw []  h0 n0 O0  ) rfl (by rw [hml]; rfl) (lenOf pd6 rfl) rfl (Nat.le_of_eq rfl) (hb hby d31_3) rfl (by decide)) ?_
  rintro T10 _ L10 X10 ⟨rfl, Nq10, eq10⟩
  have N10 := Fr.app N0 Nq10
  refine Go.ret X10 (v := some (.int 1)) (fun h => by rw [hret] at h; cases h) hlk (fun fs hr => retI X10 hx hret (hb hby d31_6) hr) ?_ (by decide) (by decide)
  show Q31_1_3 Z  h0 n0 _ T10.heap _
  rw [eq10]
  exact ⟨rfl, N10, rfl⟩
def Q33_1_3 (Z : State) (a0_ : Addr) (ed : Addr) (ke : ClassId) (y0 : Addr) (y1 : Addr) (y2 : Addr) (h0 : Heap) (n0 : Nat) (v : Option Value) (h : Heap) (L : List Loc) : Prop := v = some (.ref y1) ∧ Fr n0 L ∧ h = h0
theorem rm33_1_3 (l : Launch) (Z : State) (a0 : Array Value) (hw : ∀ d ∈ tables_1, d.before a0 Z = true) (ws : List Jvm.Cond) (a0_ : Addr) (ed : Addr) (ke : ClassId) (y0 : Addr) (y1 : Addr) (y2 : Addr) (h0 : Heap) (n0 : Nat) (O0 : Old Z n0 h0) (E0 : Exa Z h0 a0_ sq0) (F_d : Fld Z h0 a0_ sq0 sq10 sq2 (.ref ed)) (F_s : Fld Z h0 a0_ sq0 "size" "I" (.int 3)) (V_d : Arv Z h0 ed ke (.object sq1) (10 : Int32) [(.ref y0), (.ref y1), (.ref y2), .null] .null) :
    Met l Z ws mm2 jdk_38_method_18_code 2 (some (.object sq1)) (Rm 0 0 0 0) #[(.ref a0_), (.int 1)] h0 (Q33_1_3 Z a0_ ed ke y0 y1 y2 h0 n0) := by
  refine Met.enter (L0 := #[SR a0_, SI 1]) (plainFor_of_name pn55) (fun m => ef33_1_2 m a0_) ?_
  intro p e s m below meth c s₁ hx hby hml hown hnm hret hlk hZ X0 e0
  have N0 := Fr.nil n0
  have Z0 := own_z0 O0
  have K0 : Keep h0 h0 [] := Keep.refl h0 _
  refine Go.st (t' := s₁.setTop (mkF m 1 #[SR a0_, SI 1] [(.ref a0_)])) (fun target kt => ?_) ?_
  · refine XS.aloadN X0.here hx rfl (hb hby d33_0) rfl rfl ?_
    exact kt
  obtain ⟨T10, X10, e10, st10⟩ := getF X0 hx hZ hown (host := "") (Or.inl (hw _ tw67)) Via.refl e0 F_d (g := (mkF m 1 #[SR a0_, SI 1] [(.ref a0_)])) rfl rfl (hb hby d33_1)
  refine Go.st st10 ?_
  obtain ⟨cl11, Ar11, -, S11, M11, H11, -⟩ := id V_d
  have hin11 : ¬ ((1 : Int32) < 0 ∨ cl11.slots.size ≤ ((1 : Int32)).toNatClampNeg) := inb_of S11 ⟨by decide, by decide⟩
  have hat11 : cl11.slots[((1 : Int32)).toNatClampNeg]? = some (.ref y1) := H11.at hin11 rfl
  refine Go.st (t' := T10.setTop (mkF m 6 #[SR a0_, SI 1] [(.ref y1)])) (fun target kt => ?_) ?_
  · refine XS.iloadN X10.here hx rfl (hb hby d33_4) rfl ?_
    refine X10.aaload hx (j := (1 : Int32)) (v := (.ref y1)) (by rw [e10]; exact Ar11.1) (State.isArrayOf_alike hZ.alike Ar11.2.1) rfl Ar11.2.2 hin11 hat11 (g := (mkF m 5 #[SR a0_, SI 1] [(.int 1), (.ref ed)])) rfl rfl (hb hby d33_5) _ ?_
    exact kt
  refine Go.ret X10 (v := some (.ref y1)) (fun h => by rw [hret] at h; cases h) hlk (fun fs hr => retR X10 hx hret rfl rfl (hb hby d33_6) hr) ?_ (by decide) (by decide)
  show Q33_1_3 Z a0_ ed ke y0 y1 y2 h0 n0 _ T10.heap _
  rw [e10]
  exact ⟨rfl, N0, rfl⟩
def Q30_1_3 (Z : State) (a0_ : Addr) (ed : Addr) (ke : ClassId) (y0 : Addr) (y1 : Addr) (y2 : Addr) (h0 : Heap) (n0 : Nat) (v : Option Value) (h : Heap) (L : List Loc) : Prop := v = some (.ref y1) ∧ Fr n0 L ∧ h = h0
theorem rm30_1_3 (l : Launch) (Z : State) (a0 : Array Value) (hw : ∀ d ∈ tables_1, d.before a0 Z = true) (ws : List Jvm.Cond) (a0_ : Addr) (ed : Addr) (ke : ClassId) (y0 : Addr) (y1 : Addr) (y2 : Addr) (h0 : Heap) (n0 : Nat) (O0 : Old Z n0 h0) (E0 : Exa Z h0 a0_ sq0) (F_d : Fld Z h0 a0_ sq0 sq10 sq2 (.ref ed)) (F_s : Fld Z h0 a0_ sq0 "size" "I" (.int 3)) (V_d : Arv Z h0 ed ke (.object sq1) (10 : Int32) [(.ref y0), (.ref y1), (.ref y2), .null] .null) :
    Met l Z ws mm3 jdk_38_method_20_code 2 (some (.object sq1)) (Rm 2 0 0 27) #[(.ref a0_), (.int 1)] h0 (Q30_1_3 Z a0_ ed ke y0 y1 y2 h0 n0) := by
  refine Met.enter (L0 := #[SR a0_, SI 1]) (plainFor_of_name pn55) (fun m => ef33_1_2 m a0_) ?_
  intro p e s m below meth c s₁ hx hby hml hown hnm hret hlk hZ X0 e0
  have N0 := Fr.nil n0
  have Z0 := own_z0 O0
  have K0 : Keep h0 h0 [] := Keep.refl h0 _
  refine Go.st (t' := s₁.setTop (mkF m 2 #[SR a0_, SI 1] [(.ref a0_), (.int 1)])) (fun target kt => ?_) ?_
  · refine XS.iloadN X0.here hx rfl (hb hby d30_0) rfl ?_
    refine XS.aloadN X0.here hx rfl (hb hby d30_1) rfl rfl ?_
    exact kt
  obtain ⟨T10, X10, e10, st10⟩ := getF X0 hx hZ hown (host := "") (Or.inl (hw _ tw76)) Via.refl e0 F_s (g := (mkF m 2 #[SR a0_, SI 1] [(.ref a0_), (.int 1)])) rfl rfl (hb hby d30_2)
  refine Go.st st10 ?_
  refine Go.cps (own_cs (W := 0) (argsL := [(.int 1), (.int 3)]) (rest := []) X10 hx hZ hown (hw _ tw230) (hw _ tw231) (hw _ tw232) (hw _ tw200) (by decide) e10 (rm31_1_3 l Z a0 hw []  h0 n0 O0  ) rfl (by rw [hml]; rfl) (lenOf pd2 rfl) rfl (Nat.le_of_eq rfl) (hb hby d30_5) rfl (by decide)) ?_
  rintro T11 _ L11 X11 ⟨rfl, Nq11, eq11⟩
  have N11 := Fr.app N0 Nq11
  refine Go.st (t' := T11.setTop (mkF m 11 #[SR a0_, SI 1] [(.int 1), (.ref a0_)])) (fun target kt => ?_) ?_
  · refine XS.pop X11.here hx rfl (hb hby d30_8) rfl rfl ?_
    refine XS.aloadN X11.here hx rfl (hb hby d30_9) rfl rfl ?_
    refine XS.iloadN X11.here hx rfl (hb hby d30_10) rfl ?_
    exact kt
  refine Go.cps (own_cw (W := 0) (b := a0_) (argsL := [(.int 1)]) (rest := []) X11 hx hZ hown (hw _ tw237) (hw _ tw238) (hw _ tw240) (hw _ tw239) (hw _ tw241) (hw _ tw47) (by decide) eq11 E0 (rm33_1_3 l Z a0 hw [] a0_ ed ke y0 y1 y2 h0 n0 O0  E0 F_d F_s V_d) rfl (by rw [hml]; rfl) (lenOf pd7 rfl) rfl (Nat.le_of_eq rfl) (hb hby d30_11) rfl (by decide)) ?_
  rintro T12 _ L12 X12 ⟨rfl, Nq12, eq12⟩
  have N12 := Fr.app N11 Nq12
  refine Go.ret X12 (v := some (.ref y1)) (fun h => by rw [hret] at h; cases h) hlk (fun fs hr => retR X12 hx hret rfl rfl (hb hby d30_14) hr) ?_ (by decide) (by decide)
  show Q30_1_3 Z a0_ ed ke y0 y1 y2 h0 n0 _ T12.heap _
  rw [eq12]
  exact ⟨rfl, N12, rfl⟩
theorem ef32_2_3 (m : MethodId)  : entryFrame m #[(.int 2), (.int 3), .null] 3 = mkF m 0 #[SI 2, SI 3, .val .null] [] := by first | (simp [entryFrame, mkF, argsToLocals, Value.category]; done) | rfl
def Q32_2_3 (Z : State)  (h0 : Heap) (n0 : Nat) (v : Option Value) (h : Heap) (L : List Loc) : Prop := v = some (.int 2) ∧ Fr n0 L ∧ h = h0
theorem rm32_2_3 (l : Launch) (Z : State) (a0 : Array Value) (hw : ∀ d ∈ tables_1, d.before a0 Z = true) (ws : List Jvm.Cond)  (h0 : Heap) (n0 : Nat) (O0 : Old Z n0 h0) :
    Met l Z ws mm0 jdk_41_method_11_code 3 (some .int) (Rm 0 0 0 0) #[(.int 2), (.int 3), .null] h0 (Q32_2_3 Z  h0 n0) := by
  refine Met.enter (L0 := #[SI 2, SI 3, .val .null]) (plainFor_of_name pn136) (fun m => ef32_2_3 m ) ?_
  intro p e s m below meth c s₁ hx hby hml hown hnm hret hlk hZ X0 e0
  have N0 := Fr.nil n0
  have Z0 := own_z0 O0
  have K0 : Keep h0 h0 [] := Keep.refl h0 _
  refine Go.st (t' := s₁.setTop (mkF m 17 #[SI 2, SI 3, .val .null] [(.int 2)])) (fun target kt => ?_) ?_
  · refine XS.iloadN X0.here hx rfl (hb hby d32_0) rfl ?_
    refine XS.ifNo X0.here hx rfl (hb hby d32_1) rfl ((if0 _ _).trans (flt (by decide : ¬ ((2 : Int32) < (0 : Int32)))).1) ?_
    refine XS.iloadN X0.here hx rfl (hb hby d32_4) rfl ?_
    refine XS.iloadN X0.here hx rfl (hb hby d32_5) rfl ?_
    refine XS.icmpYes X0.here hx rfl (pc0 := 6) (pc' := 16) rfl (hb hby d32_6) rfl (tlt (by decide : (2 : Int32) < (3 : Int32))).1 (by decide) (by decide) ?_
    refine XS.iloadN X0.here hx rfl (hb hby d32_16) rfl ?_
    exact kt
  refine Go.ret X0 (v := some (.int 2)) (fun h => by rw [hret] at h; cases h) hlk (fun fs hr => retI X0 hx hret (hb hby d32_17) hr) ?_ (by decide) (by decide)
  show Q32_2_3 Z  h0 n0 _ s₁.heap _
  rw [e0]
  exact ⟨rfl, N0, rfl⟩
theorem ef31_2_3 (m : MethodId)  : entryFrame m #[(.int 2), (.int 3)] 2 = mkF m 0 #[SI 2, SI 3] [] := by first | (simp [entryFrame, mkF, argsToLocals, Value.category]; done) | rfl
def Q31_2_3 (Z : State)  (h0 : Heap) (n0 : Nat) (v : Option Value) (h : Heap) (L : List Loc) : Prop := v = some (.int 2) ∧ Fr n0 L ∧ h = h0
theorem rm31_2_3 (l : Launch) (Z : State) (a0 : Array Value) (hw : ∀ d ∈ tables_1, d.before a0 Z = true) (ws : List Jvm.Cond)  (h0 : Heap) (n0 : Nat) (O0 : Old Z n0 h0) :
    Met l Z ws mm1 jdk_31_method_17_code 2 (some .int) (Rm 1 0 0 14) #[(.int 2), (.int 3)] h0 (Q31_2_3 Z  h0 n0) := by
  refine Met.enter (L0 := #[SI 2, SI 3]) (plainFor_of_name pn142) (fun m => ef31_2_3 m ) ?_
  intro p e s m below meth c s₁ hx hby hml hown hnm hret hlk hZ X0 e0
  have N0 := Fr.nil n0
  have Z0 := own_z0 O0
  have K0 : Keep h0 h0 [] := Keep.refl h0 _
  refine Go.st (t' := s₁.setTop (mkF m 3 #[SI 2, SI 3] [.null, (.int 3), (.int 2)])) (fun target kt => ?_) ?_
  · refine XS.iloadN X0.here hx rfl (hb hby d31_0) rfl ?_
    refine XS.iloadN X0.here hx rfl (hb hby d31_1) rfl ?_
    refine XS.aconstNull X0.here hx rfl (hb hby d31_2) ?_
    exact kt
  refine Go.cps (own_cs (W := 0) (argsL := [(.int 2), (.int 3), .null]) (rest := []) X0 hx hZ hown (hw _ tw233) (hw _ tw234) (hw _ tw236) (hw _ tw235) (by decide) e0 (rm32_2_3 l Z a0 hw []  h0 n0 O0  ) rfl (by rw [hml]; rfl) (lenOf pd6 rfl) rfl (Nat.le_of_eq rfl) (hb hby d31_3) rfl (by decide)) ?_
  rintro T10 _ L10 X10 ⟨rfl, Nq10, eq10⟩
  have N10 := Fr.app N0 Nq10
  refine Go.ret X10 (v := some (.int 2)) (fun h => by rw [hret] at h; cases h) hlk (fun fs hr => retI X10 hx hret (hb hby d31_6) hr) ?_ (by decide) (by decide)
  show Q31_2_3 Z  h0 n0 _ T10.heap _
  rw [eq10]
  exact ⟨rfl, N10, rfl⟩
theorem ef33_2_3 (m : MethodId) (x0 : Addr) : entryFrame m #[(.ref x0), (.int 2)] 2 = mkF m 0 #[SR x0, SI 2] [] := by first | (simp [entryFrame, mkF, argsToLocals, Value.category]; done) | rfl
def Q33_2_3 (Z : State) (a0_ : Addr) (ed : Addr) (ke : ClassId) (y0 : Addr) (y1 : Addr) (y2 : Addr) (h0 : Heap) (n0 : Nat) (v : Option Value) (h : Heap) (L : List Loc) : Prop := v = some (.ref y2) ∧ Fr n0 L ∧ h = h0
theorem rm33_2_3 (l : Launch) (Z : State) (a0 : Array Value) (hw : ∀ d ∈ tables_1, d.before a0 Z = true) (ws : List Jvm.Cond) (a0_ : Addr) (ed : Addr) (ke : ClassId) (y0 : Addr) (y1 : Addr) (y2 : Addr) (h0 : Heap) (n0 : Nat) (O0 : Old Z n0 h0) (E0 : Exa Z h0 a0_ sq0) (F_d : Fld Z h0 a0_ sq0 sq10 sq2 (.ref ed)) (F_s : Fld Z h0 a0_ sq0 "size" "I" (.int 3)) (V_d : Arv Z h0 ed ke (.object sq1) (10 : Int32) [(.ref y0), (.ref y1), (.ref y2), .null] .null) :
    Met l Z ws mm2 jdk_38_method_18_code 2 (some (.object sq1)) (Rm 0 0 0 0) #[(.ref a0_), (.int 2)] h0 (Q33_2_3 Z a0_ ed ke y0 y1 y2 h0 n0) := by
  refine Met.enter (L0 := #[SR a0_, SI 2]) (plainFor_of_name pn55) (fun m => ef33_2_3 m a0_) ?_
  intro p e s m below meth c s₁ hx hby hml hown hnm hret hlk hZ X0 e0
  have N0 := Fr.nil n0
  have Z0 := own_z0 O0
  have K0 : Keep h0 h0 [] := Keep.refl h0 _
  refine Go.st (t' := s₁.setTop (mkF m 1 #[SR a0_, SI 2] [(.ref a0_)])) (fun target kt => ?_) ?_
  · refine XS.aloadN X0.here hx rfl (hb hby d33_0) rfl rfl ?_
    exact kt
  obtain ⟨T10, X10, e10, st10⟩ := getF X0 hx hZ hown (host := "") (Or.inl (hw _ tw67)) Via.refl e0 F_d (g := (mkF m 1 #[SR a0_, SI 2] [(.ref a0_)])) rfl rfl (hb hby d33_1)
  refine Go.st st10 ?_
  obtain ⟨cl11, Ar11, -, S11, M11, H11, -⟩ := id V_d
  have hin11 : ¬ ((2 : Int32) < 0 ∨ cl11.slots.size ≤ ((2 : Int32)).toNatClampNeg) := inb_of S11 ⟨by decide, by decide⟩
  have hat11 : cl11.slots[((2 : Int32)).toNatClampNeg]? = some (.ref y2) := H11.at hin11 rfl
  refine Go.st (t' := T10.setTop (mkF m 6 #[SR a0_, SI 2] [(.ref y2)])) (fun target kt => ?_) ?_
  · refine XS.iloadN X10.here hx rfl (hb hby d33_4) rfl ?_
    refine X10.aaload hx (j := (2 : Int32)) (v := (.ref y2)) (by rw [e10]; exact Ar11.1) (State.isArrayOf_alike hZ.alike Ar11.2.1) rfl Ar11.2.2 hin11 hat11 (g := (mkF m 5 #[SR a0_, SI 2] [(.int 2), (.ref ed)])) rfl rfl (hb hby d33_5) _ ?_
    exact kt
  refine Go.ret X10 (v := some (.ref y2)) (fun h => by rw [hret] at h; cases h) hlk (fun fs hr => retR X10 hx hret rfl rfl (hb hby d33_6) hr) ?_ (by decide) (by decide)
  show Q33_2_3 Z a0_ ed ke y0 y1 y2 h0 n0 _ T10.heap _
  rw [e10]
  exact ⟨rfl, N0, rfl⟩
def Q30_2_3 (Z : State) (a0_ : Addr) (ed : Addr) (ke : ClassId) (y0 : Addr) (y1 : Addr) (y2 : Addr) (h0 : Heap) (n0 : Nat) (v : Option Value) (h : Heap) (L : List Loc) : Prop := v = some (.ref y2) ∧ Fr n0 L ∧ h = h0
theorem rm30_2_3 (l : Launch) (Z : State) (a0 : Array Value) (hw : ∀ d ∈ tables_1, d.before a0 Z = true) (ws : List Jvm.Cond) (a0_ : Addr) (ed : Addr) (ke : ClassId) (y0 : Addr) (y1 : Addr) (y2 : Addr) (h0 : Heap) (n0 : Nat) (O0 : Old Z n0 h0) (E0 : Exa Z h0 a0_ sq0) (F_d : Fld Z h0 a0_ sq0 sq10 sq2 (.ref ed)) (F_s : Fld Z h0 a0_ sq0 "size" "I" (.int 3)) (V_d : Arv Z h0 ed ke (.object sq1) (10 : Int32) [(.ref y0), (.ref y1), (.ref y2), .null] .null) :
    Met l Z ws mm3 jdk_38_method_20_code 2 (some (.object sq1)) (Rm 2 0 0 27) #[(.ref a0_), (.int 2)] h0 (Q30_2_3 Z a0_ ed ke y0 y1 y2 h0 n0) := by
  refine Met.enter (L0 := #[SR a0_, SI 2]) (plainFor_of_name pn55) (fun m => ef33_2_3 m a0_) ?_
  intro p e s m below meth c s₁ hx hby hml hown hnm hret hlk hZ X0 e0
  have N0 := Fr.nil n0
  have Z0 := own_z0 O0
  have K0 : Keep h0 h0 [] := Keep.refl h0 _
  refine Go.st (t' := s₁.setTop (mkF m 2 #[SR a0_, SI 2] [(.ref a0_), (.int 2)])) (fun target kt => ?_) ?_
  · refine XS.iloadN X0.here hx rfl (hb hby d30_0) rfl ?_
    refine XS.aloadN X0.here hx rfl (hb hby d30_1) rfl rfl ?_
    exact kt
  obtain ⟨T10, X10, e10, st10⟩ := getF X0 hx hZ hown (host := "") (Or.inl (hw _ tw76)) Via.refl e0 F_s (g := (mkF m 2 #[SR a0_, SI 2] [(.ref a0_), (.int 2)])) rfl rfl (hb hby d30_2)
  refine Go.st st10 ?_
  refine Go.cps (own_cs (W := 0) (argsL := [(.int 2), (.int 3)]) (rest := []) X10 hx hZ hown (hw _ tw230) (hw _ tw231) (hw _ tw232) (hw _ tw200) (by decide) e10 (rm31_2_3 l Z a0 hw []  h0 n0 O0  ) rfl (by rw [hml]; rfl) (lenOf pd2 rfl) rfl (Nat.le_of_eq rfl) (hb hby d30_5) rfl (by decide)) ?_
  rintro T11 _ L11 X11 ⟨rfl, Nq11, eq11⟩
  have N11 := Fr.app N0 Nq11
  refine Go.st (t' := T11.setTop (mkF m 11 #[SR a0_, SI 2] [(.int 2), (.ref a0_)])) (fun target kt => ?_) ?_
  · refine XS.pop X11.here hx rfl (hb hby d30_8) rfl rfl ?_
    refine XS.aloadN X11.here hx rfl (hb hby d30_9) rfl rfl ?_
    refine XS.iloadN X11.here hx rfl (hb hby d30_10) rfl ?_
    exact kt
  refine Go.cps (own_cw (W := 0) (b := a0_) (argsL := [(.int 2)]) (rest := []) X11 hx hZ hown (hw _ tw237) (hw _ tw238) (hw _ tw240) (hw _ tw239) (hw _ tw241) (hw _ tw47) (by decide) eq11 E0 (rm33_2_3 l Z a0 hw [] a0_ ed ke y0 y1 y2 h0 n0 O0  E0 F_d F_s V_d) rfl (by rw [hml]; rfl) (lenOf pd7 rfl) rfl (Nat.le_of_eq rfl) (hb hby d30_11) rfl (by decide)) ?_
  rintro T12 _ L12 X12 ⟨rfl, Nq12, eq12⟩
  have N12 := Fr.app N11 Nq12
  refine Go.ret X12 (v := some (.ref y2)) (fun h => by rw [hret] at h; cases h) hlk (fun fs hr => retR X12 hx hret rfl rfl (hb hby d30_14) hr) ?_ (by decide) (by decide)
  show Q30_2_3 Z a0_ ed ke y0 y1 y2 h0 n0 _ T12.heap _
  rw [eq12]
  exact ⟨rfl, N12, rfl⟩
theorem d34_0 : decode zc38 0 = .ok (.aload_n 0, 1) := by decide +kernel
theorem d34_1 : decode zc38 1 = .ok (.getfield 17, 3) := by decide +kernel
theorem d34_4 : decode zc38 4 = .ok (.ireturn, 1) := by decide +kernel
def Q34 (Z : State) (a0_ : Addr) (pe : Int32) (h0 : Heap) (n0 : Nat) (v : Option Value) (h : Heap) (L : List Loc) : Prop := v = some (.int pe) ∧ Fr n0 L ∧ h = h0
theorem rm34 (l : Launch) (Z : State) (a0 : Array Value) (hw : ∀ d ∈ tables_1, d.before a0 Z = true) (ws : List Jvm.Cond) (a0_ : Addr) (pe : Int32) (h0 : Heap) (n0 : Nat) (O0 : Old Z n0 h0) (F_e : Fld Z h0 a0_ sq8 "endTime" "I" (.int pe)) :
    Met l Z ws (⟨sq8, "endTime", "()I"⟩ : MethodName) prog_1_method_10_code 1 (some .int) (Rm 0 0 0 0) #[(.ref a0_)] h0 (Q34 Z a0_ pe h0 n0) := by
  refine Met.enter (L0 := #[SR a0_]) (plainFor_of_name pn26) (fun m => ef3 m a0_) ?_
  intro p e s m below meth c s₁ hx hby hml hown hnm hret hlk hZ X0 e0
  have N0 := Fr.nil n0
  have Z0 := own_z0 O0
  have K0 : Keep h0 h0 [] := Keep.refl h0 _
  refine Go.st (t' := s₁.setTop (mkF m 1 #[SR a0_] [(.ref a0_)])) (fun target kt => ?_) ?_
  · refine XS.aloadN X0.here hx rfl (hb hby d34_0) rfl rfl ?_
    exact kt
  obtain ⟨T10, X10, e10, st10⟩ := getF X0 hx hZ hown (host := "") (Or.inl (hw _ tw30)) Via.refl e0 F_e (g := (mkF m 1 #[SR a0_] [(.ref a0_)])) rfl rfl (hb hby d34_1)
  refine Go.st st10 ?_
  refine Go.ret X10 (v := some (.int pe)) (fun h => by rw [hret] at h; cases h) hlk (fun fs hr => retI X10 hx hret (hb hby d34_4) hr) ?_ (by decide) (by decide)
  show Q34 Z a0_ pe h0 n0 _ T10.heap _
  rw [e10]
  exact ⟨rfl, N0, rfl⟩
theorem d26_0 : decode zc39 0 = .ok (.aload_n 0, 1) := by decide +kernel
theorem d26_1 : decode zc39 1 = .ok (.invokespecial 1, 3) := by decide +kernel
theorem tw196 : (Cond.methodLink sq38 1 ⟨sq28, "<init>", "()V"⟩) ∈ tables_1 := mAt 196 rfl
theorem d26_4 : decode zc39 4 = .ok (.return_, 1) := by decide +kernel
def Q26 (Z : State) (a0_ : Addr) (h0 : Heap) (n0 : Nat) (v : Option Value) (h : Heap) (L : List Loc) : Prop := v = none ∧ Fr n0 L ∧ h = h0
theorem pn163 : plainName "java/util/ImmutableCollections$AbstractImmutableCollection" = true := by first | (simp [plainName, overriddenIn]; done) | decide +kernel
theorem rm26 (l : Launch) (Z : State) (a0 : Array Value) (hw : ∀ d ∈ tables_1, d.before a0 Z = true) (ws : List Jvm.Cond) (a0_ : Addr) (h0 : Heap) (n0 : Nat) (O0 : Old Z n0 h0) :
    Met l Z ws (⟨sq38, "<init>", "()V"⟩ : MethodName) jdk_47_method_1_code 1 none (Rm 2 0 0 24) #[(.ref a0_)] h0 (Q26 Z a0_ h0 n0) := by
  refine Met.enter (L0 := #[SR a0_]) (plainFor_of_name pn163) (fun m => ef3 m a0_) ?_
  intro p e s m below meth c s₁ hx hby hml hown hnm hret hlk hZ X0 e0
  have N0 := Fr.nil n0
  have Z0 := own_z0 O0
  have K0 : Keep h0 h0 [] := Keep.refl h0 _
  refine Go.st (t' := s₁.setTop (mkF m 1 #[SR a0_] [(.ref a0_)])) (fun target kt => ?_) ?_
  · refine XS.aloadN X0.here hx rfl (hb hby d26_0) rfl rfl ?_
    exact kt
  refine Go.cps (own_ci (W := 0) (b := a0_) (argsL := []) (rest := []) X0 hx hZ hown rfl (hw _ tw196) (hw _ tw58) (hw _ tw62) (hw _ tw61) (by decide) e0 (rm8 l Z a0 hw [] a0_ h0 n0 O0  ) rfl (by rw [hml]; rfl) (lenOf pd0 rfl) rfl (Nat.le_of_eq rfl) (hb hby d26_1) rfl (by decide)) ?_
  rintro T10 _ L10 X10 ⟨rfl, Nq10, eq10⟩
  have N10 := Fr.app N0 Nq10
  refine Go.ret X10 (v := none) (fun _ => rfl) hlk (fun fs hr => X10.returnOut hx hret (hb hby d26_4) hr) ?_ (by decide) (by decide)
  show Q26 Z a0_ h0 n0 _ T10.heap _
  rw [eq10]
  exact ⟨rfl, N10, rfl⟩
theorem d25_0 : decode zc40 0 = .ok (.aload_n 0, 1) := by decide +kernel
theorem d25_1 : decode zc40 1 = .ok (.invokespecial 1, 3) := by decide +kernel
theorem tw190 : (Cond.methodLink sq35 1 ⟨sq38, "<init>", "()V"⟩) ∈ tables_1 := mAt 190 rfl
theorem tw195 : (Cond.code ⟨sq38, "<init>", "()V"⟩ jdk_47_method_1_code 1 (Option.none : Option Jvm.ClassFile.FieldType)) ∈ tables_1 := mAt 195 rfl
theorem tw194 : (Cond.initialized sq38) ∈ tables_1 := mAt 194 rfl
theorem tw191 : (Cond.instanceMethod ⟨sq38, "<init>", "()V"⟩) ∈ tables_1 := mAt 191 rfl
theorem d25_4 : decode zc40 4 = .ok (.return_, 1) := by decide +kernel
def Q25 (Z : State) (a0_ : Addr) (h0 : Heap) (n0 : Nat) (v : Option Value) (h : Heap) (L : List Loc) : Prop := v = none ∧ Fr n0 L ∧ h = h0
theorem pn167 : plainName "java/util/ImmutableCollections$AbstractImmutableList" = true := by first | (simp [plainName, overriddenIn]; done) | decide +kernel
theorem rm25 (l : Launch) (Z : State) (a0 : Array Value) (hw : ∀ d ∈ tables_1, d.before a0 Z = true) (ws : List Jvm.Cond) (a0_ : Addr) (h0 : Heap) (n0 : Nat) (O0 : Old Z n0 h0) :
    Met l Z ws (⟨sq35, "<init>", "()V"⟩ : MethodName) jdk_46_method_1_code 1 none (Rm 3 0 0 36) #[(.ref a0_)] h0 (Q25 Z a0_ h0 n0) := by
  refine Met.enter (L0 := #[SR a0_]) (plainFor_of_name pn167) (fun m => ef3 m a0_) ?_
  intro p e s m below meth c s₁ hx hby hml hown hnm hret hlk hZ X0 e0
  have N0 := Fr.nil n0
  have Z0 := own_z0 O0
  have K0 : Keep h0 h0 [] := Keep.refl h0 _
  refine Go.st (t' := s₁.setTop (mkF m 1 #[SR a0_] [(.ref a0_)])) (fun target kt => ?_) ?_
  · refine XS.aloadN X0.here hx rfl (hb hby d25_0) rfl rfl ?_
    exact kt
  refine Go.cps (own_ci (W := 0) (b := a0_) (argsL := []) (rest := []) X0 hx hZ hown rfl (hw _ tw190) (hw _ tw191) (hw _ tw195) (hw _ tw194) (by decide) e0 (rm26 l Z a0 hw [] a0_ h0 n0 O0  ) rfl (by rw [hml]; rfl) (lenOf pd0 rfl) rfl (Nat.le_of_eq rfl) (hb hby d25_1) rfl (by decide)) ?_
  rintro T10 _ L10 X10 ⟨rfl, Nq10, eq10⟩
  have N10 := Fr.app N0 Nq10
  refine Go.ret X10 (v := none) (fun _ => rfl) hlk (fun fs hr => X10.returnOut hx hret (hb hby d25_4) hr) ?_ (by decide) (by decide)
  show Q25 Z a0_ h0 n0 _ T10.heap _
  rw [eq10]
  exact ⟨rfl, N10, rfl⟩
theorem d27_0 : decode zc33 0 = .ok (.aload_n 0, 1) := by decide +kernel
theorem d27_1 : decode zc33 1 = .ok (.ifnonnull 11, 3) := by decide +kernel
theorem d27_12 : decode zc33 12 = .ok (.aload_n 0, 1) := by decide +kernel
theorem d27_13 : decode zc33 13 = .ok (.areturn, 1) := by decide +kernel
def Q27 (Z : State) (a0_ : Addr) (h0 : Heap) (n0 : Nat) (v : Option Value) (h : Heap) (L : List Loc) : Prop := v = some (.ref a0_) ∧ Fr n0 L ∧ h = h0
theorem rm27 (l : Launch) (Z : State) (a0 : Array Value) (hw : ∀ d ∈ tables_1, d.before a0 Z = true) (ws : List Jvm.Cond) (a0_ : Addr) (h0 : Heap) (n0 : Nat) (O0 : Old Z n0 h0) :
    Met l Z ws (⟨sq24, "requireNonNull", sq41⟩ : MethodName) jdk_31_method_10_code 1 (some (.object sq1)) (Rm 0 0 0 0) #[(.ref a0_)] h0 (Q27 Z a0_ h0 n0) := by
  refine Met.enter (L0 := #[SR a0_]) (plainFor_of_name pn142) (fun m => ef3 m a0_) ?_
  intro p e s m below meth c s₁ hx hby hml hown hnm hret hlk hZ X0 e0
  have N0 := Fr.nil n0
  have Z0 := own_z0 O0
  have K0 : Keep h0 h0 [] := Keep.refl h0 _
  refine Go.st (t' := s₁.setTop (mkF m 13 #[SR a0_] [(.ref a0_)])) (fun target kt => ?_) ?_
  · refine XS.aloadN X0.here hx rfl (hb hby d27_0) rfl rfl ?_
    refine XS.ifnonnullYes X0.here hx rfl (pc0 := 1) (pc' := 12) rfl (hb hby d27_1) rfl (by decide) (by decide) ?_
    refine XS.aloadN X0.here hx rfl (hb hby d27_12) rfl rfl ?_
    exact kt
  refine Go.ret X0 (v := some (.ref a0_)) (fun h => by rw [hret] at h; cases h) hlk (fun fs hr => retR X0 hx hret rfl rfl (hb hby d27_13) hr) ?_ (by decide) (by decide)
  show Q27 Z a0_ h0 n0 _ s₁.heap _
  rw [e0]
  exact ⟨rfl, N0, rfl⟩
theorem d24_0 : decode zc14 0 = .ok (.aload_n 0, 1) := by decide +kernel
theorem d24_1 : decode zc14 1 = .ok (.invokespecial 1, 3) := by decide +kernel
theorem tw184 : (Cond.methodLink sq6 1 ⟨sq35, "<init>", "()V"⟩) ∈ tables_1 := mAt 184 rfl
theorem tw189 : (Cond.code ⟨sq35, "<init>", "()V"⟩ jdk_46_method_1_code 1 (Option.none : Option Jvm.ClassFile.FieldType)) ∈ tables_1 := mAt 189 rfl
theorem tw188 : (Cond.initialized sq35) ∈ tables_1 := mAt 188 rfl
theorem tw185 : (Cond.instanceMethod ⟨sq35, "<init>", "()V"⟩) ∈ tables_1 := mAt 185 rfl
theorem d24_4 : decode zc14 4 = .ok (.aload_n 0, 1) := by decide +kernel
theorem d24_5 : decode zc14 5 = .ok (.aload_n 1, 1) := by decide +kernel
theorem d24_6 : decode zc14 6 = .ok (.invokestatic 7, 3) := by decide +kernel
theorem tw198 : (Cond.methodLink sq6 7 ⟨sq24, "requireNonNull", sq41⟩) ∈ tables_1 := mAt 198 rfl
theorem tw201 : (Cond.code ⟨sq24, "requireNonNull", sq41⟩ jdk_31_method_10_code 1 (Option.some (FieldType.object sq1))) ∈ tables_1 := mAt 201 rfl
theorem pd8 : parseMethodDescriptor "(Ljava/lang/Object;)Ljava/lang/Object;" = some ⟨[(.object "java/lang/Object")], some (.object "java/lang/Object")⟩ := by decide +kernel
theorem tw199 : (Cond.static ⟨sq24, "requireNonNull", sq41⟩) ∈ tables_1 := mAt 199 rfl
theorem d24_9 : decode zc14 9 = .ok (.putfield 13, 3) := by decide +kernel
theorem tw202 : (Cond.fieldLink sq6 13 sq6 "e0" sq12) ∈ tables_1 := mAt 202 rfl
theorem tw203 : (Cond.laysFinal sq6 sq6 "e0" sq12) ∈ tables_1 := mAt 203 rfl
theorem tw178 : (Cond.instantiable sq6 2) ∈ tables_1 := mAt 178 rfl
theorem d24_12 : decode zc14 12 = .ok (.aload_n 0, 1) := by decide +kernel
theorem d24_13 : decode zc14 13 = .ok (.getstatic 19, 3) := by decide +kernel
theorem tw204 : (Cond.fieldLinkNest sq6 19 sq14 "EMPTY" sq12 sq14) ∈ tables_1 := mAt 204 rfl
theorem d24_16 : decode zc14 16 = .ok (.putfield 24, 3) := by decide +kernel
theorem tw205 : (Cond.fieldLink sq6 24 sq6 "e1" sq12) ∈ tables_1 := mAt 205 rfl
theorem tw206 : (Cond.laysFinal sq6 sq6 "e1" sq12) ∈ tables_1 := mAt 206 rfl
theorem d24_19 : decode zc14 19 = .ok (.return_, 1) := by decide +kernel
def Q24 (Z : State) (a0_ : Addr) (a1_ : Addr) (we : Addr) (h0 : Heap) (n0 : Nat) (v : Option Value) (h : Heap) (L : List Loc) : Prop := v = none ∧ Fr n0 L ∧ Keep h0 h [a0_] ∧ Exa Z h a0_ sq6 ∧ Fld Z h a0_ sq6 "e0" sq12 (.ref a1_) ∧ Fld Z h a0_ sq6 "e1" sq12 (.ref we)
theorem pn182 : plainName "java/util/ImmutableCollections$List12" = true := by first | (simp [plainName, overriddenIn]; done) | decide +kernel
theorem rm24 (l : Launch) (Z : State) (a0 : Array Value) (hw : ∀ d ∈ tables_1, d.before a0 Z = true) (ws : List Jvm.Cond) (a0_ : Addr) (a1_ : Addr) (we : Addr) (h0 : Heap) (n0 : Nat) (O0 : Old Z n0 h0) (S_EM : Sta Z Z.heap sq14 "EMPTY" sq12 (.ref we)) (E0 : Exa Z h0 a0_ sq6) (g0 : n0 ≤ a0_) (F_e0 : Fld Z h0 a0_ sq6 "e0" sq12 .null) (F_e1 : Fld Z h0 a0_ sq6 "e1" sq12 .null) :
    Met l Z ws (⟨sq6, "<init>", "(Ljava/lang/Object;)V"⟩ : MethodName) jdk_44_method_1_code 2 none (Rm 4 0 0 48) #[(.ref a0_), (.ref a1_)] h0 (Q24 Z a0_ a1_ we h0 n0) := by
  refine Met.enter (L0 := #[SR a0_, SR a1_]) (plainFor_of_name pn182) (fun m => ef9_0 m a0_ a1_) ?_
  intro p e s m below meth c s₁ hx hby hml hown hnm hret hlk hZ X0 e0
  have N0 := Fr.nil n0
  have Z0 := own_z0 O0
  have K0 : Keep h0 h0 [a0_] := Keep.refl h0 _
  refine Go.st (t' := s₁.setTop (mkF m 1 #[SR a0_, SR a1_] [(.ref a0_)])) (fun target kt => ?_) ?_
  · refine XS.aloadN X0.here hx rfl (hb hby d24_0) rfl rfl ?_
    exact kt
  refine Go.cps (own_ci (W := 0) (b := a0_) (argsL := []) (rest := []) X0 hx hZ hown rfl (hw _ tw184) (hw _ tw185) (hw _ tw189) (hw _ tw188) (by decide) e0 (rm25 l Z a0 hw [] a0_ h0 n0 O0  ) rfl (by rw [hml]; rfl) (lenOf pd0 rfl) rfl (Nat.le_of_eq rfl) (hb hby d24_1) rfl (by decide)) ?_
  rintro T10 _ L10 X10 ⟨rfl, Nq10, eq10⟩
  have N10 := Fr.app N0 Nq10
  refine Go.st (t' := T10.setTop (mkF m 6 #[SR a0_, SR a1_] [(.ref a1_), (.ref a0_)])) (fun target kt => ?_) ?_
  · refine XS.aloadN X10.here hx rfl (hb hby d24_4) rfl rfl ?_
    refine XS.aloadN X10.here hx rfl (hb hby d24_5) rfl rfl ?_
    exact kt
  refine Go.cps (own_cs (W := 1) (argsL := [(.ref a1_)]) (rest := [(.ref a0_)]) X10 hx hZ hown (hw _ tw198) (hw _ tw199) (hw _ tw201) (hw _ tw200) (by decide) eq10 (rm27 l Z a0 hw [] a1_ h0 n0 O0  ) rfl (by rw [hml]; rfl) (lenOf pd8 rfl) rfl (Nat.le_of_eq rfl) (hb hby d24_6) rfl (by decide)) ?_
  rintro T11 _ L11 X11 ⟨rfl, Nq11, eq11⟩
  have N11 := Fr.app N10 Nq11
  obtain ⟨T12, h12, X12, e12, W12, st12⟩ := putF X11 hx hZ hown (host := "") (Or.inl (hw _ tw202)) Via.refl eq11 F_e0 E0 (Or.inr ⟨(hw _ tw203), rfl, hnm⟩) (hw _ tw178) (ty := (.object sq1)) (by decide) rfl rfl (g := (mkF m 9 #[SR a0_, SR a1_] [(.ref a1_), (.ref a0_)])) rfl rfl (hb hby d24_9)
  have F13 : Fld Z h12 a0_ sq6 "e0" sq12 (.ref a1_) := F_e0.same W12
  have K14 := K0.wr W12 (Or.inl mI0)
  have O15 := O0.wr W12 g0
  have N12 := Fr.snoc X12 N11 g0
  refine Go.st st12 ?_
  refine Go.st (t' := T12.setTop (mkF m 13 #[SR a0_, SR a1_] [(.ref a0_)])) (fun target kt => ?_) ?_
  · refine XS.aloadN X12.here hx rfl (hb hby d24_12) rfl rfl ?_
    exact kt
  obtain ⟨T16, X16, e16, st16⟩ := getS2 X12 hx hZ hown (Or.inr (hw _ tw204)) Via.refl e12 (S_EM.ext O15.2) (g := (mkF m 13 #[SR a0_, SR a1_] [(.ref a0_)])) rfl (hb hby d24_13)
  refine Go.st st16 ?_
  have c17 := F_e1.other W12 (Or.inr (slot_ne (Or.inr (hw _ tw206)) (Or.inr (hw _ tw203)) (by decide) (t := (.object sq1)) (t' := (.object sq1)) (by decide) (by decide)))
  have c18 := E0.keep K14
  obtain ⟨T19, h19, X19, e19, W19, st19⟩ := putF X16 hx hZ hown (host := "") (Or.inl (hw _ tw205)) Via.refl e16 c17 c18 (Or.inr ⟨(hw _ tw206), rfl, hnm⟩) (hw _ tw178) (ty := (.object sq1)) (by decide) rfl rfl (g := (mkF m 16 #[SR a0_, SR a1_] [(.ref we), (.ref a0_)])) rfl rfl (hb hby d24_16)
  have F20 : Fld Z h19 a0_ sq6 "e1" sq12 (.ref we) := c17.same W19
  have K21 := K14.wr W19 (Or.inl mI0)
  have O22 := O15.wr W19 g0
  have N19 := Fr.snoc X19 N12 g0
  refine Go.st st19 ?_
  have c23 := c18.wr W19
  have c24 := F13.other W19 (Or.inr (slot_ne (Or.inr (hw _ tw203)) (Or.inr (hw _ tw206)) (by decide) (t := (.object sq1)) (t' := (.object sq1)) (by decide) (by decide)))
  refine Go.ret X19 (v := none) (fun _ => rfl) hlk (fun fs hr => X19.returnOut hx hret (hb hby d24_19) hr) ?_ (by decide) (by decide)
  show Q24 Z a0_ a1_ we h0 n0 _ T19.heap _
  rw [e19]
  exact ⟨rfl, N19, K21, c23, c24, F20⟩
theorem d35_0 : decode zc13 0 = .ok (.aload_n 0, 1) := by decide +kernel
theorem d35_1 : decode zc13 1 = .ok (.invokespecial 1, 3) := by decide +kernel
theorem d35_4 : decode zc13 4 = .ok (.aload_n 0, 1) := by decide +kernel
theorem d35_5 : decode zc13 5 = .ok (.aload_n 1, 1) := by decide +kernel
theorem d35_6 : decode zc13 6 = .ok (.invokestatic 7, 3) := by decide +kernel
theorem d35_9 : decode zc13 9 = .ok (.putfield 13, 3) := by decide +kernel
theorem d35_12 : decode zc13 12 = .ok (.aload_n 0, 1) := by decide +kernel
theorem d35_13 : decode zc13 13 = .ok (.aload_n 2, 1) := by decide +kernel
theorem d35_14 : decode zc13 14 = .ok (.invokestatic 7, 3) := by decide +kernel
theorem d35_17 : decode zc13 17 = .ok (.putfield 24, 3) := by decide +kernel
theorem d35_20 : decode zc13 20 = .ok (.return_, 1) := by decide +kernel
theorem ef35 (m : MethodId) (x0 : Addr) (x1 : Addr) (x2 : Addr) : entryFrame m #[(.ref x0), (.ref x1), (.ref x2)] 3 = mkF m 0 #[SR x0, SR x1, SR x2] [] := by first | (simp [entryFrame, mkF, argsToLocals, Value.category]; done) | rfl
def Q35 (Z : State) (a0_ : Addr) (a1_ : Addr) (a2_ : Addr) (h0 : Heap) (n0 : Nat) (v : Option Value) (h : Heap) (L : List Loc) : Prop := v = none ∧ Fr n0 L ∧ Keep h0 h [a0_] ∧ Exa Z h a0_ sq6 ∧ Fld Z h a0_ sq6 "e0" sq12 (.ref a1_) ∧ Fld Z h a0_ sq6 "e1" sq12 (.ref a2_)
theorem rm35 (l : Launch) (Z : State) (a0 : Array Value) (hw : ∀ d ∈ tables_1, d.before a0 Z = true) (ws : List Jvm.Cond) (a0_ : Addr) (a1_ : Addr) (a2_ : Addr) (h0 : Heap) (n0 : Nat) (O0 : Old Z n0 h0) (E0 : Exa Z h0 a0_ sq6) (g0 : n0 ≤ a0_) (F_e0 : Fld Z h0 a0_ sq6 "e0" sq12 .null) (F_e1 : Fld Z h0 a0_ sq6 "e1" sq12 .null) :
    Met l Z ws (⟨sq6, "<init>", sq47⟩ : MethodName) jdk_44_method_2_code 3 none (Rm 4 0 0 48) #[(.ref a0_), (.ref a1_), (.ref a2_)] h0 (Q35 Z a0_ a1_ a2_ h0 n0) := by
  refine Met.enter (L0 := #[SR a0_, SR a1_, SR a2_]) (plainFor_of_name pn182) (fun m => ef35 m a0_ a1_ a2_) ?_
  intro p e s m below meth c s₁ hx hby hml hown hnm hret hlk hZ X0 e0
  have N0 := Fr.nil n0
  have Z0 := own_z0 O0
  have K0 : Keep h0 h0 [a0_] := Keep.refl h0 _
  refine Go.st (t' := s₁.setTop (mkF m 1 #[SR a0_, SR a1_, SR a2_] [(.ref a0_)])) (fun target kt => ?_) ?_
  · refine XS.aloadN X0.here hx rfl (hb hby d35_0) rfl rfl ?_
    exact kt
  refine Go.cps (own_ci (W := 0) (b := a0_) (argsL := []) (rest := []) X0 hx hZ hown rfl (hw _ tw184) (hw _ tw185) (hw _ tw189) (hw _ tw188) (by decide) e0 (rm25 l Z a0 hw [] a0_ h0 n0 O0  ) rfl (by rw [hml]; rfl) (lenOf pd0 rfl) rfl (Nat.le_of_eq rfl) (hb hby d35_1) rfl (by decide)) ?_
  rintro T10 _ L10 X10 ⟨rfl, Nq10, eq10⟩
  have N10 := Fr.app N0 Nq10
  refine Go.st (t' := T10.setTop (mkF m 6 #[SR a0_, SR a1_, SR a2_] [(.ref a1_), (.ref a0_)])) (fun target kt => ?_) ?_
  · refine XS.aloadN X10.here hx rfl (hb hby d35_4) rfl rfl ?_
    refine XS.aloadN X10.here hx rfl (hb hby d35_5) rfl rfl ?_
    exact kt
  refine Go.cps (own_cs (W := 1) (argsL := [(.ref a1_)]) (rest := [(.ref a0_)]) X10 hx hZ hown (hw _ tw198) (hw _ tw199) (hw _ tw201) (hw _ tw200) (by decide) eq10 (rm27 l Z a0 hw [] a1_ h0 n0 O0  ) rfl (by rw [hml]; rfl) (lenOf pd8 rfl) rfl (Nat.le_of_eq rfl) (hb hby d35_6) rfl (by decide)) ?_
  rintro T11 _ L11 X11 ⟨rfl, Nq11, eq11⟩
  have N11 := Fr.app N10 Nq11
  obtain ⟨T12, h12, X12, e12, W12, st12⟩ := putF X11 hx hZ hown (host := "") (Or.inl (hw _ tw202)) Via.refl eq11 F_e0 E0 (Or.inr ⟨(hw _ tw203), rfl, hnm⟩) (hw _ tw178) (ty := (.object sq1)) (by decide) rfl rfl (g := (mkF m 9 #[SR a0_, SR a1_, SR a2_] [(.ref a1_), (.ref a0_)])) rfl rfl (hb hby d35_9)
  have F13 : Fld Z h12 a0_ sq6 "e0" sq12 (.ref a1_) := F_e0.same W12
  have K14 := K0.wr W12 (Or.inl mI0)
  have O15 := O0.wr W12 g0
  have N12 := Fr.snoc X12 N11 g0
  refine Go.st st12 ?_
  refine Go.st (t' := T12.setTop (mkF m 14 #[SR a0_, SR a1_, SR a2_] [(.ref a2_), (.ref a0_)])) (fun target kt => ?_) ?_
  · refine XS.aloadN X12.here hx rfl (hb hby d35_12) rfl rfl ?_
    refine XS.aloadN X12.here hx rfl (hb hby d35_13) rfl rfl ?_
    exact kt
  refine Go.cps (own_cs (W := 1) (argsL := [(.ref a2_)]) (rest := [(.ref a0_)]) X12 hx hZ hown (hw _ tw198) (hw _ tw199) (hw _ tw201) (hw _ tw200) (by decide) e12 (rm27 l Z a0 hw [] a2_ h12 n0 O15  ) rfl (by rw [hml]; rfl) (lenOf pd8 rfl) rfl (Nat.le_of_eq rfl) (hb hby d35_14) rfl (by decide)) ?_
  rintro T16 _ L16 X16 ⟨rfl, Nq16, eq16⟩
  have N16 := Fr.app N12 Nq16
  have c17 := F_e1.other W12 (Or.inr (slot_ne (Or.inr (hw _ tw206)) (Or.inr (hw _ tw203)) (by decide) (t := (.object sq1)) (t' := (.object sq1)) (by decide) (by decide)))
  have c18 := E0.keep K14
  obtain ⟨T19, h19, X19, e19, W19, st19⟩ := putF X16 hx hZ hown (host := "") (Or.inl (hw _ tw205)) Via.refl eq16 c17 c18 (Or.inr ⟨(hw _ tw206), rfl, hnm⟩) (hw _ tw178) (ty := (.object sq1)) (by decide) rfl rfl (g := (mkF m 17 #[SR a0_, SR a1_, SR a2_] [(.ref a2_), (.ref a0_)])) rfl rfl (hb hby d35_17)
  have F20 : Fld Z h19 a0_ sq6 "e1" sq12 (.ref a2_) := c17.same W19
  have K21 := K14.wr W19 (Or.inl mI0)
  have O22 := O15.wr W19 g0
  have N19 := Fr.snoc X19 N16 g0
  refine Go.st st19 ?_
  have c23 := c18.wr W19
  have c24 := F13.other W19 (Or.inr (slot_ne (Or.inr (hw _ tw203)) (Or.inr (hw _ tw206)) (by decide) (t := (.object sq1)) (t' := (.object sq1)) (by decide) (by decide)))
  refine Go.ret X19 (v := none) (fun _ => rfl) hlk (fun fs hr => X19.returnOut hx hret (hb hby d35_20) hr) ?_ (by decide) (by decide)
  show Q35 Z a0_ a1_ a2_ h0 n0 _ T19.heap _
  rw [e19]
  exact ⟨rfl, N19, K21, c23, c24, F20⟩
theorem d37_0 : decode zc16 0 = .ok (.aload_n 0, 1) := by decide +kernel
theorem d37_1 : decode zc16 1 = .ok (.invokespecial 1, 3) := by decide +kernel
theorem tw263 : (Cond.methodLink sq7 1 ⟨sq35, "<init>", "()V"⟩) ∈ tables_1 := mAt 263 rfl
theorem d37_4 : decode zc16 4 = .ok (.aload_n 0, 1) := by decide +kernel
theorem d37_5 : decode zc16 5 = .ok (.aload_n 1, 1) := by decide +kernel
theorem d37_6 : decode zc16 6 = .ok (.putfield 7, 3) := by decide +kernel
theorem tw267 : (Cond.fieldLink sq7 7 sq7 "elements" sq2) ∈ tables_1 := mAt 267 rfl
theorem tw268 : (Cond.laysFinal sq7 sq7 "elements" sq2) ∈ tables_1 := mAt 268 rfl
theorem tw257 : (Cond.instantiable sq7 2) ∈ tables_1 := mAt 257 rfl
theorem d37_9 : decode zc16 9 = .ok (.aload_n 0, 1) := by decide +kernel
theorem d37_10 : decode zc16 10 = .ok (.iload_n 2, 1) := by decide +kernel
theorem d37_11 : decode zc16 11 = .ok (.putfield 13, 3) := by decide +kernel
theorem tw269 : (Cond.fieldLink sq7 13 sq7 "allowNulls" "Z") ∈ tables_1 := mAt 269 rfl
theorem tw270 : (Cond.laysFinal sq7 sq7 "allowNulls" "Z") ∈ tables_1 := mAt 270 rfl
theorem d37_14 : decode zc16 14 = .ok (.return_, 1) := by decide +kernel
theorem ef37 (m : MethodId) (x0 : Addr) (x1 : Addr) : entryFrame m #[(.ref x0), (.ref x1), (.int 0)] 3 = mkF m 0 #[SR x0, SR x1, SI 0] [] := by first | (simp [entryFrame, mkF, argsToLocals, Value.category]; done) | rfl
def Q37 (Z : State) (a0_ : Addr) (a1_ : Addr) (h0 : Heap) (n0 : Nat) (v : Option Value) (h : Heap) (L : List Loc) : Prop := v = none ∧ Fr n0 L ∧ Keep h0 h [a0_] ∧ Exa Z h a0_ sq7 ∧ Fld Z h a0_ sq7 "elements" sq2 (.ref a1_)
theorem pn203 : plainName "java/util/ImmutableCollections$ListN" = true := by first | (simp [plainName, overriddenIn]; done) | decide +kernel
theorem rm37 (l : Launch) (Z : State) (a0 : Array Value) (hw : ∀ d ∈ tables_1, d.before a0 Z = true) (ws : List Jvm.Cond) (a0_ : Addr) (a1_ : Addr) (h0 : Heap) (n0 : Nat) (O0 : Old Z n0 h0) (E0 : Exa Z h0 a0_ sq7) (g0 : n0 ≤ a0_) (F_e : Fld Z h0 a0_ sq7 "elements" sq2 .null) (F_a : Fld Z h0 a0_ sq7 "allowNulls" "Z" (.int 0)) :
    Met l Z ws (⟨sq7, "<init>", "([Ljava/lang/Object;Z)V"⟩ : MethodName) jdk_45_method_1_code 3 none (Rm 4 0 0 48) #[(.ref a0_), (.ref a1_), (.int 0)] h0 (Q37 Z a0_ a1_ h0 n0) := by
  refine Met.enter (L0 := #[SR a0_, SR a1_, SI 0]) (plainFor_of_name pn203) (fun m => ef37 m a0_ a1_) ?_
  intro p e s m below meth c s₁ hx hby hml hown hnm hret hlk hZ X0 e0
  have N0 := Fr.nil n0
  have Z0 := own_z0 O0
  have K0 : Keep h0 h0 [a0_] := Keep.refl h0 _
  refine Go.st (t' := s₁.setTop (mkF m 1 #[SR a0_, SR a1_, SI 0] [(.ref a0_)])) (fun target kt => ?_) ?_
  · refine XS.aloadN X0.here hx rfl (hb hby d37_0) rfl rfl ?_
    exact kt
  refine Go.cps (own_ci (W := 0) (b := a0_) (argsL := []) (rest := []) X0 hx hZ hown rfl (hw _ tw263) (hw _ tw185) (hw _ tw189) (hw _ tw188) (by decide) e0 (rm25 l Z a0 hw [] a0_ h0 n0 O0  ) rfl (by rw [hml]; rfl) (lenOf pd0 rfl) rfl (Nat.le_of_eq rfl) (hb hby d37_1) rfl (by decide)) ?_
  rintro T10 _ L10 X10 ⟨rfl, Nq10, eq10⟩
  have N10 := Fr.app N0 Nq10
  refine Go.st (t' := T10.setTop (mkF m 6 #[SR a0_, SR a1_, SI 0] [(.ref a1_), (.ref a0_)])) (fun target kt => ?_) ?_
  · refine XS.aloadN X10.here hx rfl (hb hby d37_4) rfl rfl ?_
    refine XS.aloadN X10.here hx rfl (hb hby d37_5) rfl rfl ?_
    exact kt
  obtain ⟨T11, h11, X11, e11, W11, st11⟩ := putF X10 hx hZ hown (host := "") (Or.inl (hw _ tw267)) Via.refl eq10 F_e E0 (Or.inr ⟨(hw _ tw268), rfl, hnm⟩) (hw _ tw257) (ty := (.array (.object sq1))) (by decide) rfl rfl (g := (mkF m 6 #[SR a0_, SR a1_, SI 0] [(.ref a1_), (.ref a0_)])) rfl rfl (hb hby d37_6)
  have F12 : Fld Z h11 a0_ sq7 "elements" sq2 (.ref a1_) := F_e.same W11
  have K13 := K0.wr W11 (Or.inl mI0)
  have O14 := O0.wr W11 g0
  have N11 := Fr.snoc X11 N10 g0
  refine Go.st st11 ?_
  refine Go.st (t' := T11.setTop (mkF m 11 #[SR a0_, SR a1_, SI 0] [(.int 0), (.ref a0_)])) (fun target kt => ?_) ?_
  · refine XS.aloadN X11.here hx rfl (hb hby d37_9) rfl rfl ?_
    refine XS.iloadN X11.here hx rfl (hb hby d37_10) rfl ?_
    exact kt
  have c15 := F_a.other W11 (Or.inr (slot_ne (Or.inr (hw _ tw270)) (Or.inr (hw _ tw268)) (by decide) (t := .boolean) (t' := (.array (.object sq1))) (by decide) (by decide)))
  have c16 := E0.keep K13
  obtain ⟨T17, h17, X17, e17, W17, st17⟩ := putFN X11 hx hZ hown (hw _ tw269) Via.refl e11 c15 c16 (Or.inr ⟨(hw _ tw270), rfl, hnm⟩) (hw _ tw257) (ty := .boolean) (v' := (.int 0)) (by decide) rfl (by decide) (g := (mkF m 11 #[SR a0_, SR a1_, SI 0] [(.int 0), (.ref a0_)])) rfl rfl (hb hby d37_11)
  have F18 : Fld Z h17 a0_ sq7 "allowNulls" "Z" (.int 0) := c15.same W17
  have K19 := K13.wr W17 (Or.inl mI0)
  have O20 := O14.wr W17 g0
  have N17 := Fr.snoc X17 N11 g0
  refine Go.st st17 ?_
  have c21 := c16.wr W17
  have c22 := F12.other W17 (Or.inr (slot_ne (Or.inr (hw _ tw268)) (Or.inr (hw _ tw270)) (by decide) (t := (.array (.object sq1))) (t' := .boolean) (by decide) (by decide)))
  refine Go.ret X17 (v := none) (fun _ => rfl) hlk (fun fs hr => X17.returnOut hx hret (hb hby d37_14) hr) ?_ (by decide) (by decide)
  show Q37 Z a0_ a1_ h0 n0 _ T17.heap _
  rw [e17]
  exact ⟨rfl, N17, K19, c21, c22⟩
theorem d28_0 : decode jdk_40_method_36_code 0 = .ok (.getstatic 90, 3) := by decide +kernel
theorem tw212 : (Cond.fieldLink sq3 90 sq14 "EMPTY_LIST" sq36) ∈ tables_1 := mAt 212 rfl
theorem d28_3 : decode jdk_40_method_36_code 3 = .ok (.areturn, 1) := by decide +kernel
theorem ef28 (m : MethodId)  : entryFrame m #[] 0 = mkF m 0 #[] [] := by first | (simp [entryFrame, mkF, argsToLocals, Value.category]; done) | rfl
def Q28 (Z : State) (wl : Addr) (h0 : Heap) (n0 : Nat) (v : Option Value) (h : Heap) (L : List Loc) : Prop := v = some (.ref wl) ∧ Fr n0 L ∧ h = h0
theorem pn206 : plainName "java/util/List" = true := by first | (simp [plainName, overriddenIn]; done) | decide +kernel
theorem rm28 (l : Launch) (Z : State) (a0 : Array Value) (hw : ∀ d ∈ tables_1, d.before a0 Z = true) (ws : List Jvm.Cond) (wl : Addr) (h0 : Heap) (n0 : Nat) (O0 : Old Z n0 h0) (S_EL : Sta Z Z.heap sq14 "EMPTY_LIST" sq36 (.ref wl)) :
    Met l Z ws (⟨sq3, "of", sq25⟩ : MethodName) jdk_40_method_36_code 0 (some (.object sq3)) (Rm 0 0 0 0) #[] h0 (Q28 Z wl h0 n0) := by
  refine Met.enter (L0 := #[]) (plainFor_of_name pn206) (fun m => ef28 m ) ?_
  intro p e s m below meth c s₁ hx hby hml hown hnm hret hlk hZ X0 e0
  have N0 := Fr.nil n0
  have Z0 := own_z0 O0
  have K0 : Keep h0 h0 [] := Keep.refl h0 _
  obtain ⟨T10, X10, e10, st10⟩ := getS2 X0 hx hZ hown (host := "") (Or.inl (hw _ tw212)) Via.refl e0 (S_EL.ext O0.2) (g := (mkF m 0 #[] [])) rfl (hb hby d28_0)
  refine Go.st st10 ?_
  refine Go.ret X10 (v := some (.ref wl)) (fun h => by rw [hret] at h; cases h) hlk (fun fs hr => retR X10 hx hret rfl rfl (hb hby d28_3) hr) ?_ (by decide) (by decide)
  show Q28 Z wl h0 n0 _ T10.heap _
  rw [e10]
  exact ⟨rfl, N0, rfl⟩
theorem d29_0 : decode jdk_2648_method_2_code 0 = .ok (.getstatic 21, 3) := by decide +kernel
theorem tw219 : (Cond.fieldLink sq15 21 sq15 "EMPTY" sq22) ∈ tables_1 := mAt 219 rfl
theorem d29_3 : decode jdk_2648_method_2_code 3 = .ok (.areturn, 1) := by decide +kernel
def Q29 (Z : State) (wo : Addr) (h0 : Heap) (n0 : Nat) (v : Option Value) (h : Heap) (L : List Loc) : Prop := v = some (.ref wo) ∧ Fr n0 L ∧ h = h0
theorem pn209 : plainName "java/util/OptionalDouble" = true := by first | (simp [plainName, overriddenIn]; done) | decide +kernel
theorem rm29 (l : Launch) (Z : State) (a0 : Array Value) (hw : ∀ d ∈ tables_1, d.before a0 Z = true) (ws : List Jvm.Cond) (wo : Addr) (h0 : Heap) (n0 : Nat) (O0 : Old Z n0 h0) (S_OD : Sta Z Z.heap sq15 "EMPTY" sq22 (.ref wo)) :
    Met l Z ws (⟨sq15, "empty", sq48⟩ : MethodName) jdk_2648_method_2_code 0 (some (.object sq15)) (Rm 0 0 0 0) #[] h0 (Q29 Z wo h0 n0) := by
  refine Met.enter (L0 := #[]) (plainFor_of_name pn209) (fun m => ef28 m ) ?_
  intro p e s m below meth c s₁ hx hby hml hown hnm hret hlk hZ X0 e0
  have N0 := Fr.nil n0
  have Z0 := own_z0 O0
  have K0 : Keep h0 h0 [] := Keep.refl h0 _
  obtain ⟨T10, X10, e10, st10⟩ := getS2 X0 hx hZ hown (host := "") (Or.inl (hw _ tw219)) Via.refl e0 (S_OD.ext O0.2) (g := (mkF m 0 #[] [])) rfl (hb hby d29_0)
  refine Go.st st10 ?_
  refine Go.ret X10 (v := some (.ref wo)) (fun h => by rw [hret] at h; cases h) hlk (fun fs hr => retR X10 hx hret rfl rfl (hb hby d29_3) hr) ?_ (by decide) (by decide)
  show Q29 Z wo h0 n0 _ T10.heap _
  rw [e10]
  exact ⟨rfl, N0, rfl⟩
theorem d18_0 : decode zc11 0 = .ok (.aload_n 0, 1) := by decide +kernel
theorem d18_1 : decode zc11 1 = .ok (.instanceof 10, 3) := by decide +kernel
theorem tw133 : (Cond.classLink sq14 10 sq6) ∈ tables_1 := mAt 133 rfl
theorem tw137 : (Cond.noSuperclass sq1) ∈ tables_1 := mAt 137 rfl
theorem tw136 : (Cond.superclass sq28 sq1) ∈ tables_1 := mAt 136 rfl
theorem tw135 : (Cond.superclass sq13 sq28) ∈ tables_1 := mAt 135 rfl
theorem tw134 : (Cond.superclass sq0 sq13) ∈ tables_1 := mAt 134 rfl
theorem d18_4 : decode zc11 4 = .ok (.ifCond .ne 22, 3) := by decide +kernel
theorem d18_7 : decode zc11 7 = .ok (.aload_n 0, 1) := by decide +kernel
theorem d18_8 : decode zc11 8 = .ok (.instanceof 12, 3) := by decide +kernel
theorem tw138 : (Cond.classLink sq14 12 sq7) ∈ tables_1 := mAt 138 rfl
theorem d18_11 : decode zc11 11 = .ok (.ifCond .eq 20, 3) := by decide +kernel
theorem d18_31 : decode zc11 31 = .ok (.aload_n 0, 1) := by decide +kernel
theorem d18_32 : decode zc11 32 = .ok (.invokeinterface 20 1, 5) := by decide +kernel
theorem tw139 : (Cond.methodLink sq14 20 ⟨sq26, "isEmpty", "()Z"⟩) ∈ tables_1 := mAt 139 rfl
theorem tw116 : (Cond.code ⟨sq0, "isEmpty", "()Z"⟩ jdk_38_method_9_code 1 (Option.some FieldType.boolean)) ∈ tables_1 := mAt 116 rfl
theorem pd9 : parseMethodDescriptor "()Z" = some ⟨[], some .boolean⟩ := by decide +kernel
theorem tw142 : (Cond.selects sq0 ⟨sq26, "isEmpty", "()Z"⟩ ⟨sq0, "isEmpty", "()Z"⟩) ∈ tables_1 := mAt 142 rfl
theorem tw140 : (Cond.declares ⟨sq26, "isEmpty", "()Z"⟩) ∈ tables_1 := mAt 140 rfl
theorem tw141 : (Cond.interfaceMethod sq26 sq26 "isEmpty" "()Z") ∈ tables_1 := mAt 141 rfl
theorem tw112 : (Cond.instanceMethod ⟨sq0, "isEmpty", "()Z"⟩) ∈ tables_1 := mAt 112 rfl
theorem tw113 : (Cond.publicMethod ⟨sq0, "isEmpty", "()Z"⟩) ∈ tables_1 := mAt 113 rfl
theorem tw114 : (Cond.unhidden sq0 "isEmpty" "()Z") ∈ tables_1 := mAt 114 rfl
theorem tw143 : (Cond.castable sq0 sq26) ∈ tables_1 := mAt 143 rfl
theorem d18_37 : decode zc11 37 = .ok (.ifCond .eq 7, 3) := by decide +kernel
theorem d18_40 : decode zc11 40 = .ok (.invokestatic 26, 3) := by decide +kernel
theorem tw209 : (Cond.methodLink sq14 26 ⟨sq3, "of", sq25⟩) ∈ tables_1 := mAt 209 rfl
theorem tw211 : (Cond.code ⟨sq3, "of", sq25⟩ jdk_40_method_36_code 0 (Option.some (FieldType.object sq3))) ∈ tables_1 := mAt 211 rfl
theorem tw127 : (Cond.initialized sq3) ∈ tables_1 := mAt 127 rfl
theorem pd10 : parseMethodDescriptor "()Ljava/util/List;" = some ⟨[], some (.object "java/util/List")⟩ := by decide +kernel
theorem tw210 : (Cond.static ⟨sq3, "of", sq25⟩) ∈ tables_1 := mAt 210 rfl
theorem d18_43 : decode zc11 43 = .ok (.areturn, 1) := by decide +kernel
theorem ef18_0 (m : MethodId) (x0 : Addr) : entryFrame m #[(.ref x0)] 2 = mkF m 0 #[SR x0, .unset] [] := by first | (simp [entryFrame, mkF, argsToLocals, Value.category]; done) | rfl
def Q18_0 (Z : State) (a0_ : Addr) (wl : Addr) (h0 : Heap) (n0 : Nat) (v : Option Value) (h : Heap) (L : List Loc) : Prop := v = some (.ref wl) ∧ Fr n0 L ∧ h = h0
theorem pn221 : plainName "java/util/ImmutableCollections" = true := by first | (simp [plainName, overriddenIn]; done) | decide +kernel
theorem rm18_0 (l : Launch) (Z : State) (a0 : Array Value) (hw : ∀ d ∈ tables_1, d.before a0 Z = true) (ws : List Jvm.Cond) (a0_ : Addr) (wl : Addr) (h0 : Heap) (n0 : Nat) (O0 : Old Z n0 h0) (S_EL : Sta Z Z.heap sq14 "EMPTY_LIST" sq36 (.ref wl)) (E0 : Exa Z h0 a0_ sq0) (F_s : Fld Z h0 a0_ sq0 "size" "I" (.int 0)) :
    Met l Z ws mm4 jdk_56_method_3_code 2 (some (.object sq3)) (Rm 1 0 0 12) #[(.ref a0_)] h0 (Q18_0 Z a0_ wl h0 n0) := by
  refine Met.enter (L0 := #[SR a0_, .unset]) (plainFor_of_name pn221) (fun m => ef18_0 m a0_) ?_
  intro p e s m below meth c s₁ hx hby hml hown hnm hret hlk hZ X0 e0
  have N0 := Fr.nil n0
  have Z0 := own_z0 O0
  have K0 : Keep h0 h0 [] := Keep.refl h0 _
  refine Go.st (t' := s₁.setTop (mkF m 1 #[SR a0_, .unset] [(.ref a0_)])) (fun target kt => ?_) ?_
  · refine XS.aloadN X0.here hx rfl (hb hby d18_0) rfl rfl ?_
    exact kt
  obtain ⟨T10, X10, e10, st10⟩ := instNo X0 hx hZ hown (hw _ tw133) e0 E0 (own_nsno (hw _ tw134) (hw _ tw178) (NS.step (hw _ tw134) (NS.step (hw _ tw135) (NS.step (hw _ tw136) (own_nsroot (hw _ tw137) (hw _ tw178) (by decide)) (by decide)) (by decide)) (by decide)) (by decide)) (g := (mkF m 1 #[SR a0_, .unset] [(.ref a0_)])) rfl rfl (hb hby d18_1)
  refine Go.st st10 ?_
  refine Go.st (t' := T10.setTop (mkF m 8 #[SR a0_, .unset] [(.ref a0_)])) (fun target kt => ?_) ?_
  · refine XS.ifNo X10.here hx rfl (hb hby d18_4) rfl ((if0 _ _).trans (teq (by decide : (0 : Int32) = (0 : Int32))).2) ?_
    refine XS.aloadN X10.here hx rfl (hb hby d18_7) rfl rfl ?_
    exact kt
  obtain ⟨T11, X11, e11, st11⟩ := instNo X10 hx hZ hown (hw _ tw138) e10 E0 (own_nsno (hw _ tw134) (hw _ tw257) (NS.step (hw _ tw134) (NS.step (hw _ tw135) (NS.step (hw _ tw136) (own_nsroot (hw _ tw137) (hw _ tw257) (by decide)) (by decide)) (by decide)) (by decide)) (by decide)) (g := (mkF m 8 #[SR a0_, .unset] [(.ref a0_)])) rfl rfl (hb hby d18_8)
  refine Go.st st11 ?_
  refine Go.st (t' := T11.setTop (mkF m 32 #[SR a0_, .unset] [(.ref a0_)])) (fun target kt => ?_) ?_
  · refine XS.ifYes X11.here hx rfl (pc0 := 11) (pc' := 31) rfl (hb hby d18_11) rfl ((if0 _ _).trans (teq (by decide : (0 : Int32) = (0 : Int32))).1) (by decide) (by decide) ?_
    refine XS.aloadN X11.here hx rfl (hb hby d18_31) rfl rfl ?_
    exact kt
  refine Go.cps (own_cf (W := 0) (b := a0_) (argsL := []) (rest := []) X11 hx hZ hown (hw _ tw139) (hw _ tw140) (hw _ tw141) (hw _ tw142) (hw _ tw112) (hw _ tw113) (hw _ tw114) (hw _ tw143) (hw _ tw116) (hw _ tw47) (by decide) e11 E0 (rm15_1 l Z a0 hw [] a0_ (0 : Int32) h0 n0 O0  F_s (by decide : (0 : Int32) = (0 : Int32))) rfl (by rw [hml]; rfl) (lenOf pd9 rfl) rfl (Nat.le_of_eq rfl) (hb hby d18_32) rfl (by decide)) ?_
  rintro T12 _ L12 X12 ⟨rfl, Nq12, eq12⟩
  have N12 := Fr.app N0 Nq12
  refine Go.st (t' := T12.setTop (mkF m 40 #[SR a0_, .unset] [])) (fun target kt => ?_) ?_
  · refine XS.ifNo X12.here hx rfl (hb hby d18_37) rfl ((if0 _ _).trans (feq (by decide : ¬ ((1 : Int32) = (0 : Int32)))).1) ?_
    exact kt
  refine Go.cps (own_cs (W := 0) (argsL := []) (rest := []) X12 hx hZ hown (hw _ tw209) (hw _ tw210) (hw _ tw211) (hw _ tw127) (by decide) eq12 (rm28 l Z a0 hw [] wl h0 n0 O0 S_EL ) rfl (by rw [hml]; rfl) (lenOf pd10 rfl) rfl (Nat.le_of_eq rfl) (hb hby d18_40) rfl (by decide)) ?_
  rintro T13 _ L13 X13 ⟨rfl, Nq13, eq13⟩
  have N13 := Fr.app N12 Nq13
  refine Go.ret X13 (v := some (.ref wl)) (fun h => by rw [hret] at h; cases h) hlk (fun fs hr => retR X13 hx hret rfl rfl (hb hby d18_43) hr) ?_ (by decide) (by decide)
  show Q18_0 Z a0_ wl h0 n0 _ T13.heap _
  rw [eq13]
  exact ⟨rfl, N13, rfl⟩
theorem d17_0 : decode zc41 0 = .ok (.aload_n 0, 1) := by decide +kernel
theorem d17_1 : decode zc41 1 = .ok (.invokestatic 112, 3) := by decide +kernel
theorem tw129 : (Cond.methodLink sq3 112 ⟨sq14, "listCopy", sq27⟩) ∈ tables_1 := mAt 129 rfl
theorem tw132 : (Cond.code ⟨sq14, "listCopy", sq27⟩ jdk_56_method_3_code 2 (Option.some (FieldType.object sq3))) ∈ tables_1 := mAt 132 rfl
theorem tw131 : (Cond.initialized sq14) ∈ tables_1 := mAt 131 rfl
theorem pd11 : parseMethodDescriptor "(Ljava/util/Collection;)Ljava/util/List;" = some ⟨[(.object "java/util/Collection")], some (.object "java/util/List")⟩ := by decide +kernel
theorem tw130 : (Cond.static ⟨sq14, "listCopy", sq27⟩) ∈ tables_1 := mAt 130 rfl
theorem d17_4 : decode zc41 4 = .ok (.areturn, 1) := by decide +kernel
def Q17_0 (Z : State) (a0_ : Addr) (wl : Addr) (h0 : Heap) (n0 : Nat) (v : Option Value) (h : Heap) (L : List Loc) : Prop := v = some (.ref wl) ∧ Fr n0 L ∧ h = h0
theorem rm17_0 (l : Launch) (Z : State) (a0 : Array Value) (hw : ∀ d ∈ tables_1, d.before a0 Z = true) (ws : List Jvm.Cond) (a0_ : Addr) (wl : Addr) (h0 : Heap) (n0 : Nat) (O0 : Old Z n0 h0) (S_EL : Sta Z Z.heap sq14 "EMPTY_LIST" sq36 (.ref wl)) (E0 : Exa Z h0 a0_ sq0) (F_s : Fld Z h0 a0_ sq0 "size" "I" (.int 0)) :
    Met l Z ws mm5 jdk_40_method_48_code 1 (some (.object sq3)) (Rm 2 0 0 25) #[(.ref a0_)] h0 (Q17_0 Z a0_ wl h0 n0) := by
  refine Met.enter (L0 := #[SR a0_]) (plainFor_of_name pn206) (fun m => ef3 m a0_) ?_
  intro p e s m below meth c s₁ hx hby hml hown hnm hret hlk hZ X0 e0
  have N0 := Fr.nil n0
  have Z0 := own_z0 O0
  have K0 : Keep h0 h0 [] := Keep.refl h0 _
  refine Go.st (t' := s₁.setTop (mkF m 1 #[SR a0_] [(.ref a0_)])) (fun target kt => ?_) ?_
  · refine XS.aloadN X0.here hx rfl (hb hby d17_0) rfl rfl ?_
    exact kt
  refine Go.cps (own_cs (W := 0) (argsL := [(.ref a0_)]) (rest := []) X0 hx hZ hown (hw _ tw129) (hw _ tw130) (hw _ tw132) (hw _ tw131) (by decide) e0 (rm18_0 l Z a0 hw [] a0_ wl h0 n0 O0 S_EL E0 F_s) rfl (by rw [hml]; rfl) (lenOf pd11 rfl) rfl (Nat.le_of_eq rfl) (hb hby d17_1) rfl (by decide)) ?_
  rintro T10 _ L10 X10 ⟨rfl, Nq10, eq10⟩
  have N10 := Fr.app N0 Nq10
  refine Go.ret X10 (v := some (.ref wl)) (fun h => by rw [hret] at h; cases h) hlk (fun fs hr => retR X10 hx hret rfl rfl (hb hby d17_4) hr) ?_ (by decide) (by decide)
  show Q17_0 Z a0_ wl h0 n0 _ T10.heap _
  rw [eq10]
  exact ⟨rfl, N10, rfl⟩
theorem d22_0 : decode zc31 0 = .ok (.iload_n 0, 1) := by decide +kernel
theorem d22_1 : decode zc31 1 = .ok (.iload_n 1, 1) := by decide +kernel
theorem d22_2 : decode zc31 2 = .ok (.if_icmp .gt 7, 3) := by decide +kernel
theorem d22_9 : decode zc31 9 = .ok (.iload_n 1, 1) := by decide +kernel
theorem d22_10 : decode zc31 10 = .ok (.ireturn, 1) := by decide +kernel
def Q22_1 (Z : State)  (h0 : Heap) (n0 : Nat) (v : Option Value) (h : Heap) (L : List Loc) : Prop := v = some (.int 1) ∧ Fr n0 L ∧ h = h0
theorem rm22_1 (l : Launch) (Z : State) (a0 : Array Value) (hw : ∀ d ∈ tables_1, d.before a0 Z = true) (ws : List Jvm.Cond)  (h0 : Heap) (n0 : Nat) (O0 : Old Z n0 h0) :
    Met l Z ws mm10 jdk_29_method_69_code 2 (some .int) (Rm 0 0 0 0) #[(.int 10), (.int 1)] h0 (Q22_1 Z  h0 n0) := by
  refine Met.enter (L0 := #[SI 10, SI 1]) (Jvm.Free.JP.mathPlain rfl (by decide +kernel)) (fun m => ef13 m ) ?_
  intro p e s m below meth c s₁ hx hby hml hown hnm hret hlk hZ X0 e0
  have N0 := Fr.nil n0
  have Z0 := own_z0 O0
  have K0 : Keep h0 h0 [] := Keep.refl h0 _
  refine Go.st (t' := s₁.setTop (mkF m 10 #[SI 10, SI 1] [(.int 1)])) (fun target kt => ?_) ?_
  · refine XS.iloadN X0.here hx rfl (hb hby d22_0) rfl ?_
    refine XS.iloadN X0.here hx rfl (hb hby d22_1) rfl ?_
    refine XS.icmpYes X0.here hx rfl (pc0 := 2) (pc' := 9) rfl (hb hby d22_2) rfl (tlt (by decide : (1 : Int32) < (10 : Int32))).2.2.1 (by decide) (by decide) ?_
    refine XS.iloadN X0.here hx rfl (hb hby d22_9) rfl ?_
    exact kt
  refine Go.ret X0 (v := some (.int 1)) (fun h => by rw [hret] at h; cases h) hlk (fun fs hr => retI X0 hx hret (hb hby d22_10) hr) ?_ (by decide) (by decide)
  show Q22_1 Z  h0 n0 _ s₁.heap _
  rw [e0]
  exact ⟨rfl, N0, rfl⟩
theorem d21_0 : decode zc8 0 = .ok (.aload_n 2, 1) := by decide +kernel
theorem tw165 : (Cond.classLink sq19 110 sq2) ∈ tables_1 := mAt 165 rfl
theorem d21_1 : decode zc8 1 = .ok (.ldc 110, 2) := by decide +kernel
theorem d21_3 : decode zc8 3 = .ok (.if_acmp .ne 10, 3) := by decide +kernel
theorem d21_6 : decode zc8 6 = .ok (.iload_n 1, 1) := by decide +kernel
theorem d21_7 : decode zc8 7 = .ok (.anewarray 2, 3) := by decide +kernel
theorem tw166 : (Cond.classLink sq19 2 sq1) ∈ tables_1 := mAt 166 rfl
theorem d21_10 : decode zc8 10 = .ok (.goto 14, 3) := by decide +kernel
theorem d21_24 : decode zc8 24 = .ok (.astore_n 3, 1) := by decide +kernel
theorem d21_25 : decode zc8 25 = .ok (.aload_n 0, 1) := by decide +kernel
theorem d21_26 : decode zc8 26 = .ok (.iconst 0, 1) := by decide +kernel
theorem d21_27 : decode zc8 27 = .ok (.aload_n 3, 1) := by decide +kernel
theorem d21_28 : decode zc8 28 = .ok (.iconst 0, 1) := by decide +kernel
theorem d21_29 : decode zc8 29 = .ok (.aload_n 0, 1) := by decide +kernel
theorem d21_30 : decode zc8 30 = .ok (.arraylength, 1) := by decide +kernel
theorem d21_31 : decode zc8 31 = .ok (.iload_n 1, 1) := by decide +kernel
theorem d21_32 : decode zc8 32 = .ok (.invokestatic 304, 3) := by decide +kernel
theorem tw167 : (Cond.methodLink sq19 304 ⟨"java/lang/Math", "min", "(II)I"⟩) ∈ tables_1 := mAt 167 rfl
theorem tw169 : (Cond.code ⟨"java/lang/Math", "min", "(II)I"⟩ jdk_29_method_69_code 2 (Option.some FieldType.int)) ∈ tables_1 := mAt 169 rfl
theorem tw168 : (Cond.static ⟨"java/lang/Math", "min", "(II)I"⟩) ∈ tables_1 := mAt 168 rfl
theorem d21_35 : decode zc8 35 = .ok (.invokestatic 150, 3) := by decide +kernel
theorem tw170 : (Cond.methodLink sq19 150 ⟨"java/lang/System", "arraycopy", "(Ljava/lang/Object;ILjava/lang/Object;II)V"⟩) ∈ tables_1 := mAt 170 rfl
theorem tw173 : (Cond.native ⟨"java/lang/System", "arraycopy", "(Ljava/lang/Object;ILjava/lang/Object;II)V"⟩) ∈ tables_1 := mAt 173 rfl
theorem tw171 : (Cond.static ⟨"java/lang/System", "arraycopy", "(Ljava/lang/Object;ILjava/lang/Object;II)V"⟩) ∈ tables_1 := mAt 171 rfl
theorem tw172 : (Cond.initialized "java/lang/System") ∈ tables_1 := mAt 172 rfl
theorem d21_38 : decode zc8 38 = .ok (.aload_n 3, 1) := by decide +kernel
theorem d21_39 : decode zc8 39 = .ok (.areturn, 1) := by decide +kernel
theorem ef21_1 (m : MethodId) (x0 : Addr) (x2 : Addr) : entryFrame m #[(.ref x0), (.int 1), (.ref x2)] 4 = mkF m 0 #[SR x0, SI 1, SR x2, .unset] [] := by first | (simp [entryFrame, mkF, argsToLocals, Value.category]; done) | rfl
def Q21_1 (Z : State) (ed : Addr) (wm : Addr) (ke : ClassId) (y0 : Addr) (h0 : Heap) (n0 : Nat) (v : Option Value) (h : Heap) (L : List Loc) : Prop := ∃ (b : Addr) (kb : ClassId), v = some (.ref b) ∧ Fr n0 L ∧ Keep h0 h [] ∧ h0.size ≤ b ∧ Ovr Z kb sq1 ∧ Exa Z h b sq2 ∧ Arv Z h b kb (.object sq1) (1 : Int32) [(.ref y0)] .null
theorem pn248 : plainName "java/util/Arrays" = true := by first | (simp [plainName, overriddenIn]; done) | decide +kernel
theorem rm21_1 (l : Launch) (Z : State) (a0 : Array Value) (hw : ∀ d ∈ tables_1, d.before a0 Z = true) (ws : List Jvm.Cond) (ed : Addr) (wm : Addr) (ke : ClassId) (y0 : Addr) (h0 : Heap) (n0 : Nat) (O0 : Old Z n0 h0) (M_AO : MirM Z sq2 wm) (E_d : Exa Z h0 ed sq2) (V_d : Arv Z h0 ed ke (.object sq1) (10 : Int32) [(.ref y0), .null, .null, .null] .null) (I_y0 : Ins Z h0 y0 sq1 true) :
    Met l Z ws mm11 jdk_65_method_120_code 4 (some (.array (.object sq1))) (Rm 1 1 1 18) #[(.ref ed), (.int 1), (.ref wm)] h0 (Q21_1 Z ed wm ke y0 h0 n0) := by
  refine Met.enter (L0 := #[SR ed, SI 1, SR wm, .unset]) (plainFor_of_name pn248) (fun m => ef21_1 m ed wm) ?_
  intro p e s m below meth c s₁ hx hby hml hown hnm hret hlk hZ X0 e0
  have N0 := Fr.nil n0
  have Z0 := own_z0 O0
  have K0 : Keep h0 h0 [] := Keep.refl h0 _
  refine Go.st (t' := s₁.setTop (mkF m 1 #[SR ed, SI 1, SR wm, .unset] [(.ref wm)])) (fun target kt => ?_) ?_
  · refine XS.aloadN X0.here hx rfl (hb hby d21_0) rfl rfl ?_
    exact kt
  obtain ⟨T10, X10, e10, st10⟩ := own_ldcM X0 hx hZ hown (hw _ tw165) e0 M_AO (g := (mkF m 1 #[SR ed, SI 1, SR wm, .unset] [(.ref wm)])) rfl (hb hby d21_1)
  refine Go.st st10 ?_
  refine Go.st (t' := T10.setTop (mkF m 7 #[SR ed, SI 1, SR wm, .unset] [(.int 1)])) (fun target kt => ?_) ?_
  · refine Jvm.RoadKit.acmp (g := (mkF m 3 #[SR ed, SI 1, SR wm, .unset] [(.ref wm), (.ref wm)])) X10 hx rfl rfl rfl (pc0 := 3) (pc' := 6) (same := true) rfl (hb hby d21_3) rfl (decide_eq_true rfl) (by decide) (by decide) ?_
    refine XS.iloadN X10.here hx rfl (hb hby d21_6) rfl ?_
    exact kt
  obtain ⟨T11, h11, k11, X11, e11, E11, A11, B11, O'11, st11⟩ := newRE X10 hx hZ hown (hw _ tw166) (hw _ tw98) e10 (g := (mkF m 7 #[SR ed, SI 1, SR wm, .unset] [(.int 1)])) rfl (hb hby d21_7) rfl (by decide) (cap := 1) (by decide) (by decide) (by decide) (by decide) (ad := sq2) (by decide)
  obtain ⟨b11, g11⟩ : ∃ z, z = h0.size := ⟨_, rfl⟩
  rw [← g11] at A11 B11 st11
  have lb12 : h0.size ≤ b11 := Nat.le_of_eq g11.symm
  have sz13 : h0.size ≤ b11 := Nat.le_trans K0.1 lb12
  have g14 : n0 ≤ b11 := Nat.le_trans Z0 sz13
  have K15 := K0.ext E11
  have O16 := O0.ext E11
  have V17 : Arv Z h11 b11 k11 (.object sq1) (1 : Int32) [.null] .null := (Arv.new A11 (by decide)).pad (pad_rep [] .null 1)
  refine Go.st st11 ?_
  have c19 := V_d.keep K15 nin0
  obtain ⟨cl18, Ar18, -, S18, M18, -, -⟩ := id c19
  refine Go.st (t' := T11.setTop (mkF m 32 #[SR ed, SI 1, SR wm, SR b11] [(.int 1), (.int 10), (.int 0), (.ref b11), (.int 0), (.ref ed)])) (fun target kt => ?_) ?_
  · refine XS.goto X11.here hx rfl (pc0 := 10) (pc' := 24) rfl (hb hby d21_10) (by decide) (by decide) ?_
    refine XS.astoreN X11.here hx rfl (hb hby d21_24) rfl rfl (l' := #[SR ed, SI 1, SR wm, SR b11]) rfl ?_
    refine XS.aloadN X11.here hx rfl (hb hby d21_25) rfl rfl ?_
    refine XS.iconst X11.here hx rfl (hb hby d21_26) ?_
    refine XS.aloadN X11.here hx rfl (hb hby d21_27) rfl rfl ?_
    refine XS.iconst X11.here hx rfl (hb hby d21_28) ?_
    refine XS.aloadN X11.here hx rfl (hb hby d21_29) rfl rfl ?_
    refine X11.arraylength hx (by rw [e11]; exact Ar18.1) (State.isArrayOf_alike hZ.alike Ar18.2.1) (g := (mkF m 30 #[SR ed, SI 1, SR wm, SR b11] [(.ref ed), (.int 0), (.ref b11), (.int 0), (.ref ed)])) rfl rfl (hb hby d21_30) _ ?_
    rw [len_of S18 M18]
    refine XS.iloadN X11.here hx rfl (hb hby d21_31) rfl ?_
    exact kt
  refine Go.cps (own_cs (W := 4) (argsL := [(.int 10), (.int 1)]) (rest := [(.int 0), (.ref b11), (.int 0), (.ref ed)]) X11 hx hZ hown (hw _ tw167) (hw _ tw168) (hw _ tw169) (hw _ tw95) (by decide) e11 (rm22_1 l Z a0 hw []  h11 n0 O16  ) rfl (by rw [hml]; rfl) (lenOf pd2 rfl) rfl (Nat.le_of_eq rfl) (hb hby d21_32) rfl (by decide)) ?_
  rintro T20 _ L20 X20 ⟨rfl, Nq20, eq20⟩
  have N20 := Fr.app N0 Nq20
  obtain ⟨cl21, Ar21, q21, -, -, -, -⟩ := id V17
  have c22 := I_y0.keep K15
  have sl21 : StoL Z h11 b11 [(.ref y0)] := ⟨Sto.ofV Ar21 q21 O'11 c22, trivial⟩
  obtain ⟨T21, h21, L21, X21, e21, N21, Kq21, V21, st21⟩ := cpA X20 hx hZ hown (hw _ tw170) (hw _ tw173) (hw _ tw171) (hw _ tw172) eq20 c19 V17 (Or.inr ⟨rfl, rfl, sl21⟩) (sp := (0 : Int32)) (dp := (0 : Int32)) (nn := (1 : Int32)) (by decide) (by decide) (by decide) (by decide) (by decide) rfl (by decide) N20 g14 (g := (mkF m 35 #[SR ed, SI 1, SR wm, SR b11] [(.int 1), (.int 0), (.ref b11), (.int 0), (.ref ed)])) rfl (by rw [hml]; rfl) rfl (hb hby d21_35) (by decide) (W := 0) (by show 2 * 0 + _ ≤ _; exact Nat.le_of_eq rfl) (by decide)
  have K23 := K15.trans Kq21 (allS (Or.inr sz13) all0)
  have O24 := O16.keep Kq21 (allS g14 all0)
  have V25 : Arv Z h21 b11 k11 (.object sq1) (1 : Int32) [(.ref y0)] .null := V21
  refine Go.st st21 ?_
  refine Go.st (t' := T21.setTop (mkF m 39 #[SR ed, SI 1, SR wm, SR b11] [(.ref b11)])) (fun target kt => ?_) ?_
  · refine XS.aloadN X21.here hx rfl (hb hby d21_38) rfl rfl ?_
    exact kt
  have c26 := B11.keep Kq21
  refine Go.ret X21 (v := some (.ref b11)) (fun h => by rw [hret] at h; cases h) hlk (fun fs hr => retR X21 hx hret rfl rfl (hb hby d21_39) hr) ?_ (by decide) (by decide)
  show Q21_1 Z ed wm ke y0 h0 n0 _ T21.heap _
  rw [e21]
  exact ⟨b11, k11, rfl, N21, K23, sz13, (by first | assumption | decide | omega), c26, V25⟩
theorem d20_0 : decode zc27 0 = .ok (.aload_n 0, 1) := by decide +kernel
theorem d20_1 : decode zc27 1 = .ok (.iload_n 1, 1) := by decide +kernel
theorem d20_2 : decode zc27 2 = .ok (.aload_n 0, 1) := by decide +kernel
theorem d20_3 : decode zc27 3 = .ok (.invokevirtual 86, 3) := by decide +kernel
theorem tw156 : (Cond.methodLink sq19 86 ⟨sq1, "getClass", "()Ljava/lang/Class;"⟩) ∈ tables_1 := mAt 156 rfl
theorem tw157 : (Cond.declares ⟨sq1, "getClass", "()Ljava/lang/Class;"⟩) ∈ tables_1 := mAt 157 rfl
theorem tw159 : (Cond.selects sq2 ⟨sq1, "getClass", "()Ljava/lang/Class;"⟩ ⟨sq1, "getClass", "()Ljava/lang/Class;"⟩) ∈ tables_1 := mAt 159 rfl
theorem tw158 : (Cond.instanceMethod ⟨sq1, "getClass", "()Ljava/lang/Class;"⟩) ∈ tables_1 := mAt 158 rfl
theorem tw160 : (Cond.native ⟨sq1, "getClass", "()Ljava/lang/Class;"⟩) ∈ tables_1 := mAt 160 rfl
theorem d20_6 : decode zc27 6 = .ok (.invokestatic 300, 3) := by decide +kernel
theorem tw162 : (Cond.methodLink sq19 300 ⟨sq19, "copyOf", sq43⟩) ∈ tables_1 := mAt 162 rfl
theorem tw164 : (Cond.code ⟨sq19, "copyOf", sq43⟩ jdk_65_method_120_code 4 (Option.some (FieldType.array (FieldType.object sq1)))) ∈ tables_1 := mAt 164 rfl
theorem tw154 : (Cond.initialized sq19) ∈ tables_1 := mAt 154 rfl
theorem pd12 : parseMethodDescriptor "([Ljava/lang/Object;ILjava/lang/Class;)[Ljava/lang/Object;" = some ⟨[(.array (.object "java/lang/Object")), .int, (.object "java/lang/Class")], some (.array (.object "java/lang/Object"))⟩ := by decide +kernel
theorem tw163 : (Cond.static ⟨sq19, "copyOf", sq43⟩) ∈ tables_1 := mAt 163 rfl
theorem d20_9 : decode zc27 9 = .ok (.areturn, 1) := by decide +kernel
def Q20_1 (Z : State) (ed : Addr) (wm : Addr) (ke : ClassId) (y0 : Addr) (h0 : Heap) (n0 : Nat) (v : Option Value) (h : Heap) (L : List Loc) : Prop := ∃ (b : Addr) (kb : ClassId), v = some (.ref b) ∧ Fr n0 L ∧ Keep h0 h [] ∧ h0.size ≤ b ∧ Ovr Z kb sq1 ∧ Exa Z h b sq2 ∧ Arv Z h b kb (.object sq1) (1 : Int32) [(.ref y0)] .null
theorem rm20_1 (l : Launch) (Z : State) (a0 : Array Value) (hw : ∀ d ∈ tables_1, d.before a0 Z = true) (ws : List Jvm.Cond) (ed : Addr) (wm : Addr) (ke : ClassId) (y0 : Addr) (h0 : Heap) (n0 : Nat) (O0 : Old Z n0 h0) (M_AO : MirM Z sq2 wm) (E_d : Exa Z h0 ed sq2) (V_d : Arv Z h0 ed ke (.object sq1) (10 : Int32) [(.ref y0), .null, .null, .null] .null) (I_y0 : Ins Z h0 y0 sq1 true) :
    Met l Z ws mm12 jdk_65_method_119_code 2 (some (.array (.object sq1))) (Rm 2 1 1 33) #[(.ref ed), (.int 1)] h0 (Q20_1 Z ed wm ke y0 h0 n0) := by
  refine Met.enter (L0 := #[SR ed, SI 1]) (plainFor_of_name pn248) (fun m => ef33_1_2 m ed) ?_
  intro p e s m below meth c s₁ hx hby hml hown hnm hret hlk hZ X0 e0
  have N0 := Fr.nil n0
  have Z0 := own_z0 O0
  have K0 : Keep h0 h0 [] := Keep.refl h0 _
  refine Go.st (t' := s₁.setTop (mkF m 3 #[SR ed, SI 1] [(.ref ed), (.int 1), (.ref ed)])) (fun target kt => ?_) ?_
  · refine XS.aloadN X0.here hx rfl (hb hby d20_0) rfl rfl ?_
    refine XS.iloadN X0.here hx rfl (hb hby d20_1) rfl ?_
    refine XS.aloadN X0.here hx rfl (hb hby d20_2) rfl rfl ?_
    exact kt
  obtain ⟨T10, X10, e10, st10⟩ := own_gcls X0 hx hZ hown (hw _ tw156) (hw _ tw157) (hw _ tw159) (hw _ tw158) (hw _ tw160) e0 E_d M_AO (g := (mkF m 3 #[SR ed, SI 1] [(.ref ed), (.int 1), (.ref ed)])) rfl (by rw [hml]; rfl) rfl (hb hby d20_3) (by decide) (W := 2) (by show 2 * 0 + _ ≤ _; exact Nat.le_of_eq rfl) (by decide)
  refine Go.st st10 ?_
  refine Go.cps (own_cs (W := 0) (argsL := [(.ref ed), (.int 1), (.ref wm)]) (rest := []) X10 hx hZ hown (hw _ tw162) (hw _ tw163) (hw _ tw164) (hw _ tw154) (by decide) e10 (rm21_1 l Z a0 hw [] ed wm ke y0 h0 n0 O0 M_AO E_d V_d I_y0) rfl (by rw [hml]; rfl) (lenOf pd12 rfl) rfl (Nat.le_of_eq rfl) (hb hby d20_6) rfl (by decide)) ?_
  rintro T11 _ L11 X11 ⟨b12, k13, rfl, Nq11, Kq11, q14, q15, q16, q17⟩
  have N11 := Fr.app N0 Nq11
  have sz18 : h0.size ≤ b12 := Nat.le_trans K0.1 q14
  have g19 : n0 ≤ b12 := Nat.le_trans Z0 sz18
  have K20 := K0.trans Kq11 all0
  have O21 := O0.keep Kq11 all0
  refine Go.ret X11 (v := some (.ref b12)) (fun h => by rw [hret] at h; cases h) hlk (fun fs hr => retR X11 hx hret rfl rfl (hb hby d20_9) hr) ?_ (by decide) (by decide)
  show Q20_1 Z ed wm ke y0 h0 n0 _ T11.heap _
  exact ⟨b12, k13, rfl, N11, K20, sz18, (by first | assumption | decide | omega), q16, q17⟩
theorem d19_0 : decode zc28 0 = .ok (.aload_n 0, 1) := by decide +kernel
theorem d19_1 : decode zc28 1 = .ok (.getfield 9, 3) := by decide +kernel
theorem d19_4 : decode zc28 4 = .ok (.aload_n 0, 1) := by decide +kernel
theorem d19_5 : decode zc28 5 = .ok (.getfield 48, 3) := by decide +kernel
theorem d19_8 : decode zc28 8 = .ok (.invokestatic 66, 3) := by decide +kernel
theorem tw152 : (Cond.methodLink sq0 66 ⟨sq19, "copyOf", sq44⟩) ∈ tables_1 := mAt 152 rfl
theorem tw155 : (Cond.code ⟨sq19, "copyOf", sq44⟩ jdk_65_method_119_code 2 (Option.some (FieldType.array (FieldType.object sq1)))) ∈ tables_1 := mAt 155 rfl
theorem pd13 : parseMethodDescriptor "([Ljava/lang/Object;I)[Ljava/lang/Object;" = some ⟨[(.array (.object "java/lang/Object")), .int], some (.array (.object "java/lang/Object"))⟩ := by decide +kernel
theorem tw153 : (Cond.static ⟨sq19, "copyOf", sq44⟩) ∈ tables_1 := mAt 153 rfl
theorem d19_11 : decode zc28 11 = .ok (.areturn, 1) := by decide +kernel
def Q19_1 (Z : State) (a0_ : Addr) (wm : Addr) (ed : Addr) (ke : ClassId) (y0 : Addr) (h0 : Heap) (n0 : Nat) (v : Option Value) (h : Heap) (L : List Loc) : Prop := ∃ (b : Addr) (kb : ClassId), v = some (.ref b) ∧ Fr n0 L ∧ Keep h0 h [] ∧ h0.size ≤ b ∧ Ovr Z kb sq1 ∧ Exa Z h b sq2 ∧ Arv Z h b kb (.object sq1) (1 : Int32) [(.ref y0)] .null
theorem rm19_1 (l : Launch) (Z : State) (a0 : Array Value) (hw : ∀ d ∈ tables_1, d.before a0 Z = true) (ws : List Jvm.Cond) (a0_ : Addr) (wm : Addr) (ed : Addr) (ke : ClassId) (y0 : Addr) (h0 : Heap) (n0 : Nat) (O0 : Old Z n0 h0) (M_AO : MirM Z sq2 wm) (E0 : Exa Z h0 a0_ sq0) (F_d : Fld Z h0 a0_ sq0 sq10 sq2 (.ref ed)) (F_s : Fld Z h0 a0_ sq0 "size" "I" (.int 1)) (E_d : Exa Z h0 ed sq2) (V_d : Arv Z h0 ed ke (.object sq1) (10 : Int32) [(.ref y0), .null, .null, .null] .null) (I_y0 : Ins Z h0 y0 sq1 true) :
    Met l Z ws mm13 jdk_38_method_16_code 1 (some (.array (.object sq1))) (Rm 3 1 1 46) #[(.ref a0_)] h0 (Q19_1 Z a0_ wm ed ke y0 h0 n0) := by
  refine Met.enter (L0 := #[SR a0_]) (plainFor_of_name pn55) (fun m => ef3 m a0_) ?_
  intro p e s m below meth c s₁ hx hby hml hown hnm hret hlk hZ X0 e0
  have N0 := Fr.nil n0
  have Z0 := own_z0 O0
  have K0 : Keep h0 h0 [] := Keep.refl h0 _
  refine Go.st (t' := s₁.setTop (mkF m 1 #[SR a0_] [(.ref a0_)])) (fun target kt => ?_) ?_
  · refine XS.aloadN X0.here hx rfl (hb hby d19_0) rfl rfl ?_
    exact kt
  obtain ⟨T10, X10, e10, st10⟩ := getF X0 hx hZ hown (host := "") (Or.inl (hw _ tw67)) Via.refl e0 F_d (g := (mkF m 1 #[SR a0_] [(.ref a0_)])) rfl rfl (hb hby d19_1)
  refine Go.st st10 ?_
  refine Go.st (t' := T10.setTop (mkF m 5 #[SR a0_] [(.ref a0_), (.ref ed)])) (fun target kt => ?_) ?_
  · refine XS.aloadN X10.here hx rfl (hb hby d19_4) rfl rfl ?_
    exact kt
  obtain ⟨T11, X11, e11, st11⟩ := getF X10 hx hZ hown (host := "") (Or.inl (hw _ tw76)) Via.refl e10 F_s (g := (mkF m 5 #[SR a0_] [(.ref a0_), (.ref ed)])) rfl rfl (hb hby d19_5)
  refine Go.st st11 ?_
  refine Go.cps (own_cs (W := 0) (argsL := [(.ref ed), (.int 1)]) (rest := []) X11 hx hZ hown (hw _ tw152) (hw _ tw153) (hw _ tw155) (hw _ tw154) (by decide) e11 (rm20_1 l Z a0 hw [] ed wm ke y0 h0 n0 O0 M_AO E_d V_d I_y0) rfl (by rw [hml]; rfl) (lenOf pd13 rfl) rfl (Nat.le_of_eq rfl) (hb hby d19_8) rfl (by decide)) ?_
  rintro T12 _ L12 X12 ⟨b13, k14, rfl, Nq12, Kq12, q15, q16, q17, q18⟩
  have N12 := Fr.app N0 Nq12
  have sz19 : h0.size ≤ b13 := Nat.le_trans K0.1 q15
  have g20 : n0 ≤ b13 := Nat.le_trans Z0 sz19
  have K21 := K0.trans Kq12 all0
  have O22 := O0.keep Kq12 all0
  refine Go.ret X12 (v := some (.ref b13)) (fun h => by rw [hret] at h; cases h) hlk (fun fs hr => retR X12 hx hret rfl rfl (hb hby d19_11) hr) ?_ (by decide) (by decide)
  show Q19_1 Z a0_ wm ed ke y0 h0 n0 _ T12.heap _
  exact ⟨b13, k14, rfl, N12, K21, sz19, (by first | assumption | decide | omega), q17, q18⟩
theorem d23_0 : decode zc4 0 = .ok (.aload_n 0, 1) := by decide +kernel
theorem d23_1 : decode zc4 1 = .ok (.arraylength, 1) := by decide +kernel
theorem d23_2 : decode zc4 2 = .ok (.tableswitch 57 0 2 #[26, 32, 43], 26) := by decide +kernel
theorem d23_34 : decode zc4 34 = .ok (.new 96, 3) := by decide +kernel
theorem tw177 : (Cond.classLink sq3 96 sq6) ∈ tables_1 := mAt 177 rfl
theorem tw179 : (Cond.initialized sq6) ∈ tables_1 := mAt 179 rfl
theorem d23_37 : decode zc4 37 = .ok (.dup, 1) := by decide +kernel
theorem d23_38 : decode zc4 38 = .ok (.aload_n 0, 1) := by decide +kernel
theorem d23_39 : decode zc4 39 = .ok (.iconst 0, 1) := by decide +kernel
theorem d23_40 : decode zc4 40 = .ok (.aaload, 1) := by decide +kernel
theorem d23_41 : decode zc4 41 = .ok (.invokespecial 98, 3) := by decide +kernel
theorem tw180 : (Cond.methodLink sq3 98 ⟨sq6, "<init>", "(Ljava/lang/Object;)V"⟩) ∈ tables_1 := mAt 180 rfl
theorem tw183 : (Cond.code ⟨sq6, "<init>", "(Ljava/lang/Object;)V"⟩ jdk_44_method_1_code 2 (Option.none : Option Jvm.ClassFile.FieldType)) ∈ tables_1 := mAt 183 rfl
theorem pd14 : parseMethodDescriptor "(Ljava/lang/Object;)V" = some ⟨[(.object "java/lang/Object")], none⟩ := by decide +kernel
theorem tw181 : (Cond.instanceMethod ⟨sq6, "<init>", "(Ljava/lang/Object;)V"⟩) ∈ tables_1 := mAt 181 rfl
theorem d23_44 : decode zc4 44 = .ok (.areturn, 1) := by decide +kernel
def Q23_1 (Z : State) (ar : Addr) (ka : ClassId) (y0 : Addr) (we : Addr) (h0 : Heap) (n0 : Nat) (v : Option Value) (h : Heap) (L : List Loc) : Prop := ∃ (r : Addr), v = some (.ref r) ∧ Fr n0 L ∧ Keep h0 h [] ∧ h0.size ≤ r ∧ Exa Z h r sq6 ∧ Fld Z h r sq6 "e0" sq12 (.ref y0) ∧ Fld Z h r sq6 "e1" sq12 (.ref we)
theorem rm23_1 (l : Launch) (Z : State) (a0 : Array Value) (hw : ∀ d ∈ tables_1, d.before a0 Z = true) (ws : List Jvm.Cond) (ar : Addr) (ka : ClassId) (y0 : Addr) (we : Addr) (h0 : Heap) (n0 : Nat) (O0 : Old Z n0 h0) (S_EM : Sta Z Z.heap sq14 "EMPTY" sq12 (.ref we)) (V_a : Arv Z h0 ar ka (.object sq1) (1 : Int32) [(.ref y0)] .null) :
    Met l Z ws mm14 jdk_40_method_47_code 2 (some (.object sq3)) (Rm 5 1 2 62) #[(.ref ar)] h0 (Q23_1 Z ar ka y0 we h0 n0) := by
  refine Met.enter (L0 := #[SR ar, .unset]) (plainFor_of_name pn206) (fun m => ef18_0 m ar) ?_
  intro p e s m below meth c s₁ hx hby hml hown hnm hret hlk hZ X0 e0
  have N0 := Fr.nil n0
  have Z0 := own_z0 O0
  have K0 : Keep h0 h0 [] := Keep.refl h0 _
  obtain ⟨cl10, Ar10, -, S10, M10, -, -⟩ := id V_a
  refine Go.st (t' := s₁.setTop (mkF m 34 #[SR ar, .unset] [])) (fun target kt => ?_) ?_
  · refine XS.aloadN X0.here hx rfl (hb hby d23_0) rfl rfl ?_
    refine X0.arraylength hx (by rw [e0]; exact Ar10.1) (State.isArrayOf_alike hZ.alike Ar10.2.1) (g := (mkF m 1 #[SR ar, .unset] [(.ref ar)])) rfl rfl (hb hby d23_1) _ ?_
    rw [len_of S10 M10]
    refine XS.tswIn X0.here hx rfl (pc0 := 2) (pc' := 34) (o := 32) rfl (hb hby d23_2) rfl (by decide) rfl (by decide) (by decide) ?_
    exact kt
  obtain ⟨T11, h11, X11, e11, E11, A11, D11, -, st11⟩ := newO X0 hx hZ hown (hw _ tw177) (hw _ tw178) (hw _ tw179) e0 (g := (mkF m 34 #[SR ar, .unset] [])) rfl (hb hby d23_34) (by decide) (by decide)
  obtain ⟨b11, g11⟩ : ∃ z, z = h0.size := ⟨_, rfl⟩
  rw [← g11] at A11 D11 st11
  have lb12 : h0.size ≤ b11 := Nat.le_of_eq g11.symm
  have sz13 : h0.size ≤ b11 := Nat.le_trans K0.1 lb12
  have g14 : n0 ≤ b11 := Nat.le_trans Z0 sz13
  have K15 := K0.ext E11
  have O16 := O0.ext E11
  have F17 : Fld Z h11 b11 sq6 "e0" sq12 .null := D11 (Or.inr (hw _ tw203)) (ty := (.object sq1)) (by decide)
  have F18 : Fld Z h11 b11 sq6 "e1" sq12 .null := D11 (Or.inr (hw _ tw206)) (ty := (.object sq1)) (by decide)
  refine Go.st st11 ?_
  have c19 := V_a.keep K15 nin0
  obtain ⟨cl20, Ar20, -, S20, M20, H20, -⟩ := id c19
  have hin20 : ¬ ((0 : Int32) < 0 ∨ cl20.slots.size ≤ ((0 : Int32)).toNatClampNeg) := inb_of S20 ⟨by decide, by decide⟩
  have hat20 : cl20.slots[((0 : Int32)).toNatClampNeg]? = some (.ref y0) := H20.at hin20 rfl
  refine Go.st (t' := T11.setTop (mkF m 41 #[SR ar, .unset] [(.ref y0), (.ref b11), (.ref b11)])) (fun target kt => ?_) ?_
  · refine XS.dup X11.here hx rfl (hb hby d23_37) rfl rfl ?_
    refine XS.aloadN X11.here hx rfl (hb hby d23_38) rfl rfl ?_
    refine XS.iconst X11.here hx rfl (hb hby d23_39) ?_
    refine X11.aaload hx (j := (0 : Int32)) (v := (.ref y0)) (by rw [e11]; exact Ar20.1) (State.isArrayOf_alike hZ.alike Ar20.2.1) rfl Ar20.2.2 hin20 hat20 (g := (mkF m 40 #[SR ar, .unset] [(.int 0), (.ref ar), (.ref b11), (.ref b11)])) rfl rfl (hb hby d23_40) _ ?_
    exact kt
  refine Go.cps (own_ci (W := 1) (b := b11) (argsL := [(.ref y0)]) (rest := [(.ref b11)]) X11 hx hZ hown rfl (hw _ tw180) (hw _ tw181) (hw _ tw183) (hw _ tw179) (by decide) e11 (rm24 l Z a0 hw [] b11 y0 we h11 n0 O16 S_EM A11 g14 F17 F18) rfl (by rw [hml]; rfl) (lenOf pd14 rfl) rfl (Nat.le_of_eq rfl) (hb hby d23_41) rfl (by decide)) ?_
  rintro T21 _ L21 X21 ⟨rfl, Nq21, Kq21, q22, q23, q24⟩
  have N21 := Fr.app N0 Nq21
  have K25 := K15.trans Kq21 (allS (Or.inr sz13) all0)
  have O26 := O16.keep Kq21 (allS g14 all0)
  refine Go.ret X21 (v := some (.ref b11)) (fun h => by rw [hret] at h; cases h) hlk (fun fs hr => retR X21 hx hret rfl rfl (hb hby d23_44) hr) ?_ (by decide) (by decide)
  show Q23_1 Z ar ka y0 we h0 n0 _ T21.heap _
  exact ⟨b11, rfl, N21, K25, sz13, q22, q23, q24⟩
theorem d18_44 : decode zc11 44 = .ok (.aload_n 0, 1) := by decide +kernel
theorem d18_45 : decode zc11 45 = .ok (.invokeinterface 30 1, 5) := by decide +kernel
theorem tw144 : (Cond.methodLink sq14 30 ⟨sq26, "toArray", sq20⟩) ∈ tables_1 := mAt 144 rfl
theorem tw151 : (Cond.code ⟨sq0, "toArray", sq20⟩ jdk_38_method_16_code 1 (Option.some (FieldType.array (FieldType.object sq1)))) ∈ tables_1 := mAt 151 rfl
theorem tw147 : (Cond.selects sq0 ⟨sq26, "toArray", sq20⟩ ⟨sq0, "toArray", sq20⟩) ∈ tables_1 := mAt 147 rfl
theorem tw145 : (Cond.declares ⟨sq26, "toArray", sq20⟩) ∈ tables_1 := mAt 145 rfl
theorem tw146 : (Cond.interfaceMethod sq26 sq26 "toArray" sq20) ∈ tables_1 := mAt 146 rfl
theorem tw148 : (Cond.instanceMethod ⟨sq0, "toArray", sq20⟩) ∈ tables_1 := mAt 148 rfl
theorem tw149 : (Cond.publicMethod ⟨sq0, "toArray", sq20⟩) ∈ tables_1 := mAt 149 rfl
theorem tw150 : (Cond.unhidden sq0 "toArray" sq20) ∈ tables_1 := mAt 150 rfl
theorem d18_50 : decode zc11 50 = .ok (.invokestatic 34, 3) := by decide +kernel
theorem tw174 : (Cond.methodLink sq14 34 ⟨sq3, "of", sq29⟩) ∈ tables_1 := mAt 174 rfl
theorem tw176 : (Cond.code ⟨sq3, "of", sq29⟩ jdk_40_method_47_code 2 (Option.some (FieldType.object sq3))) ∈ tables_1 := mAt 176 rfl
theorem pd15 : parseMethodDescriptor "([Ljava/lang/Object;)Ljava/util/List;" = some ⟨[(.array (.object "java/lang/Object"))], some (.object "java/util/List")⟩ := by decide +kernel
theorem tw175 : (Cond.static ⟨sq3, "of", sq29⟩) ∈ tables_1 := mAt 175 rfl
theorem d18_53 : decode zc11 53 = .ok (.areturn, 1) := by decide +kernel
def Q18_1 (Z : State) (a0_ : Addr) (wm : Addr) (ed : Addr) (ke : ClassId) (y0 : Addr) (we : Addr) (h0 : Heap) (n0 : Nat) (v : Option Value) (h : Heap) (L : List Loc) : Prop := ∃ (r : Addr), v = some (.ref r) ∧ Fr n0 L ∧ Keep h0 h [] ∧ h0.size ≤ r ∧ Exa Z h r sq6 ∧ Fld Z h r sq6 "e0" sq12 (.ref y0) ∧ Fld Z h r sq6 "e1" sq12 (.ref we)
theorem rm18_1 (l : Launch) (Z : State) (a0 : Array Value) (hw : ∀ d ∈ tables_1, d.before a0 Z = true) (ws : List Jvm.Cond) (a0_ : Addr) (wm : Addr) (ed : Addr) (ke : ClassId) (y0 : Addr) (we : Addr) (h0 : Heap) (n0 : Nat) (O0 : Old Z n0 h0) (M_AO : MirM Z sq2 wm) (S_EM : Sta Z Z.heap sq14 "EMPTY" sq12 (.ref we)) (E0 : Exa Z h0 a0_ sq0) (F_d : Fld Z h0 a0_ sq0 sq10 sq2 (.ref ed)) (F_s : Fld Z h0 a0_ sq0 "size" "I" (.int 1)) (E_d : Exa Z h0 ed sq2) (V_d : Arv Z h0 ed ke (.object sq1) (10 : Int32) [(.ref y0), .null, .null, .null] .null) (I_y0 : Ins Z h0 y0 sq1 true) :
    Met l Z ws mm4 jdk_56_method_3_code 2 (some (.object sq3)) (Rm 6 2 3 75) #[(.ref a0_)] h0 (Q18_1 Z a0_ wm ed ke y0 we h0 n0) := by
  refine Met.enter (L0 := #[SR a0_, .unset]) (plainFor_of_name pn221) (fun m => ef18_0 m a0_) ?_
  intro p e s m below meth c s₁ hx hby hml hown hnm hret hlk hZ X0 e0
  have N0 := Fr.nil n0
  have Z0 := own_z0 O0
  have K0 : Keep h0 h0 [] := Keep.refl h0 _
  refine Go.st (t' := s₁.setTop (mkF m 1 #[SR a0_, .unset] [(.ref a0_)])) (fun target kt => ?_) ?_
  · refine XS.aloadN X0.here hx rfl (hb hby d18_0) rfl rfl ?_
    exact kt
  obtain ⟨T10, X10, e10, st10⟩ := instNo X0 hx hZ hown (hw _ tw133) e0 E0 (own_nsno (hw _ tw134) (hw _ tw178) (NS.step (hw _ tw134) (NS.step (hw _ tw135) (NS.step (hw _ tw136) (own_nsroot (hw _ tw137) (hw _ tw178) (by decide)) (by decide)) (by decide)) (by decide)) (by decide)) (g := (mkF m 1 #[SR a0_, .unset] [(.ref a0_)])) rfl rfl (hb hby d18_1)
  refine Go.st st10 ?_
  refine Go.st (t' := T10.setTop (mkF m 8 #[SR a0_, .unset] [(.ref a0_)])) (fun target kt => ?_) ?_
  · refine XS.ifNo X10.here hx rfl (hb hby d18_4) rfl ((if0 _ _).trans (teq (by decide : (0 : Int32) = (0 : Int32))).2) ?_
    refine XS.aloadN X10.here hx rfl (hb hby d18_7) rfl rfl ?_
    exact kt
  obtain ⟨T11, X11, e11, st11⟩ := instNo X10 hx hZ hown (hw _ tw138) e10 E0 (own_nsno (hw _ tw134) (hw _ tw257) (NS.step (hw _ tw134) (NS.step (hw _ tw135) (NS.step (hw _ tw136) (own_nsroot (hw _ tw137) (hw _ tw257) (by decide)) (by decide)) (by decide)) (by decide)) (by decide)) (g := (mkF m 8 #[SR a0_, .unset] [(.ref a0_)])) rfl rfl (hb hby d18_8)
  refine Go.st st11 ?_
  refine Go.st (t' := T11.setTop (mkF m 32 #[SR a0_, .unset] [(.ref a0_)])) (fun target kt => ?_) ?_
  · refine XS.ifYes X11.here hx rfl (pc0 := 11) (pc' := 31) rfl (hb hby d18_11) rfl ((if0 _ _).trans (teq (by decide : (0 : Int32) = (0 : Int32))).1) (by decide) (by decide) ?_
    refine XS.aloadN X11.here hx rfl (hb hby d18_31) rfl rfl ?_
    exact kt
  refine Go.cps (own_cf (W := 0) (b := a0_) (argsL := []) (rest := []) X11 hx hZ hown (hw _ tw139) (hw _ tw140) (hw _ tw141) (hw _ tw142) (hw _ tw112) (hw _ tw113) (hw _ tw114) (hw _ tw143) (hw _ tw116) (hw _ tw47) (by decide) e11 E0 (rm15_0 l Z a0 hw [] a0_ (1 : Int32) h0 n0 O0  F_s (by decide : ¬ ((1 : Int32) = (0 : Int32)))) rfl (by rw [hml]; rfl) (lenOf pd9 rfl) rfl (Nat.le_of_eq rfl) (hb hby d18_32) rfl (by decide)) ?_
  rintro T12 _ L12 X12 ⟨rfl, Nq12, eq12⟩
  have N12 := Fr.app N0 Nq12
  refine Go.st (t' := T12.setTop (mkF m 45 #[SR a0_, .unset] [(.ref a0_)])) (fun target kt => ?_) ?_
  · refine XS.ifYes X12.here hx rfl (pc0 := 37) (pc' := 44) rfl (hb hby d18_37) rfl ((if0 _ _).trans (teq (by decide : (0 : Int32) = (0 : Int32))).1) (by decide) (by decide) ?_
    refine XS.aloadN X12.here hx rfl (hb hby d18_44) rfl rfl ?_
    exact kt
  refine Go.cps (own_cf (W := 0) (b := a0_) (argsL := []) (rest := []) X12 hx hZ hown (hw _ tw144) (hw _ tw145) (hw _ tw146) (hw _ tw147) (hw _ tw148) (hw _ tw149) (hw _ tw150) (hw _ tw143) (hw _ tw151) (hw _ tw47) (by decide) eq12 E0 (rm19_1 l Z a0 hw [] a0_ wm ed ke y0 h0 n0 O0 M_AO E0 F_d F_s E_d V_d I_y0) rfl (by rw [hml]; rfl) (lenOf pd4 rfl) rfl (Nat.le_of_eq rfl) (hb hby d18_45) rfl (by decide)) ?_
  rintro T13 _ L13 X13 ⟨b14, k15, rfl, Nq13, Kq13, q16, q17, q18, q19⟩
  have N13 := Fr.app N12 Nq13
  have sz20 : h0.size ≤ b14 := Nat.le_trans K0.1 q16
  have g21 : n0 ≤ b14 := Nat.le_trans Z0 sz20
  have K22 := K0.trans Kq13 all0
  have O23 := O0.keep Kq13 all0
  refine Go.cps (own_cs (W := 0) (argsL := [(.ref b14)]) (rest := []) X13 hx hZ hown (hw _ tw174) (hw _ tw175) (hw _ tw176) (hw _ tw127) (by decide) rfl (rm23_1 l Z a0 hw [] b14 k15 y0 we T13.heap n0 O23 S_EM q19) rfl (by rw [hml]; rfl) (lenOf pd15 rfl) rfl (Nat.le_of_eq rfl) (hb hby d18_50) rfl (by decide)) ?_
  rintro T24 _ L24 X24 ⟨b25, rfl, Nq24, Kq24, q26, q27, q28, q29⟩
  have N24 := Fr.app N13 Nq24
  have sz30 : h0.size ≤ b25 := Nat.le_trans K22.1 q26
  have g31 : n0 ≤ b25 := Nat.le_trans Z0 sz30
  have K32 := K22.trans Kq24 all0
  have O33 := O23.keep Kq24 all0
  refine Go.ret X24 (v := some (.ref b25)) (fun h => by rw [hret] at h; cases h) hlk (fun fs hr => retR X24 hx hret rfl rfl (hb hby d18_53) hr) ?_ (by decide) (by decide)
  show Q18_1 Z a0_ wm ed ke y0 we h0 n0 _ T24.heap _
  exact ⟨b25, rfl, N24, K32, sz30, q27, q28, q29⟩
def Q17_1 (Z : State) (a0_ : Addr) (wm : Addr) (ed : Addr) (ke : ClassId) (y0 : Addr) (we : Addr) (h0 : Heap) (n0 : Nat) (v : Option Value) (h : Heap) (L : List Loc) : Prop := ∃ (r : Addr), v = some (.ref r) ∧ Fr n0 L ∧ Keep h0 h [] ∧ h0.size ≤ r ∧ Exa Z h r sq6 ∧ Fld Z h r sq6 "e0" sq12 (.ref y0) ∧ Fld Z h r sq6 "e1" sq12 (.ref we)
theorem rm17_1 (l : Launch) (Z : State) (a0 : Array Value) (hw : ∀ d ∈ tables_1, d.before a0 Z = true) (ws : List Jvm.Cond) (a0_ : Addr) (wm : Addr) (ed : Addr) (ke : ClassId) (y0 : Addr) (we : Addr) (h0 : Heap) (n0 : Nat) (O0 : Old Z n0 h0) (M_AO : MirM Z sq2 wm) (S_EM : Sta Z Z.heap sq14 "EMPTY" sq12 (.ref we)) (E0 : Exa Z h0 a0_ sq0) (F_d : Fld Z h0 a0_ sq0 sq10 sq2 (.ref ed)) (F_s : Fld Z h0 a0_ sq0 "size" "I" (.int 1)) (E_d : Exa Z h0 ed sq2) (V_d : Arv Z h0 ed ke (.object sq1) (10 : Int32) [(.ref y0), .null, .null, .null] .null) (I_y0 : Ins Z h0 y0 sq1 true) :
    Met l Z ws mm5 jdk_40_method_48_code 1 (some (.object sq3)) (Rm 7 2 3 88) #[(.ref a0_)] h0 (Q17_1 Z a0_ wm ed ke y0 we h0 n0) := by
  refine Met.enter (L0 := #[SR a0_]) (plainFor_of_name pn206) (fun m => ef3 m a0_) ?_
  intro p e s m below meth c s₁ hx hby hml hown hnm hret hlk hZ X0 e0
  have N0 := Fr.nil n0
  have Z0 := own_z0 O0
  have K0 : Keep h0 h0 [] := Keep.refl h0 _
  refine Go.st (t' := s₁.setTop (mkF m 1 #[SR a0_] [(.ref a0_)])) (fun target kt => ?_) ?_
  · refine XS.aloadN X0.here hx rfl (hb hby d17_0) rfl rfl ?_
    exact kt
  refine Go.cps (own_cs (W := 0) (argsL := [(.ref a0_)]) (rest := []) X0 hx hZ hown (hw _ tw129) (hw _ tw130) (hw _ tw132) (hw _ tw131) (by decide) e0 (rm18_1 l Z a0 hw [] a0_ wm ed ke y0 we h0 n0 O0 M_AO S_EM E0 F_d F_s E_d V_d I_y0) rfl (by rw [hml]; rfl) (lenOf pd11 rfl) rfl (Nat.le_of_eq rfl) (hb hby d17_1) rfl (by decide)) ?_
  rintro T10 _ L10 X10 ⟨b11, rfl, Nq10, Kq10, q12, q13, q14, q15⟩
  have N10 := Fr.app N0 Nq10
  have sz16 : h0.size ≤ b11 := Nat.le_trans K0.1 q12
  have g17 : n0 ≤ b11 := Nat.le_trans Z0 sz16
  have K18 := K0.trans Kq10 all0
  have O19 := O0.keep Kq10 all0
  refine Go.ret X10 (v := some (.ref b11)) (fun h => by rw [hret] at h; cases h) hlk (fun fs hr => retR X10 hx hret rfl rfl (hb hby d17_4) hr) ?_ (by decide) (by decide)
  show Q17_1 Z a0_ wm ed ke y0 we h0 n0 _ T10.heap _
  exact ⟨b11, rfl, N10, K18, sz16, q13, q14, q15⟩
theorem ef22_2 (m : MethodId)  : entryFrame m #[(.int 10), (.int 2)] 2 = mkF m 0 #[SI 10, SI 2] [] := by first | (simp [entryFrame, mkF, argsToLocals, Value.category]; done) | rfl
def Q22_2 (Z : State)  (h0 : Heap) (n0 : Nat) (v : Option Value) (h : Heap) (L : List Loc) : Prop := v = some (.int 2) ∧ Fr n0 L ∧ h = h0
theorem rm22_2 (l : Launch) (Z : State) (a0 : Array Value) (hw : ∀ d ∈ tables_1, d.before a0 Z = true) (ws : List Jvm.Cond)  (h0 : Heap) (n0 : Nat) (O0 : Old Z n0 h0) :
    Met l Z ws mm10 jdk_29_method_69_code 2 (some .int) (Rm 0 0 0 0) #[(.int 10), (.int 2)] h0 (Q22_2 Z  h0 n0) := by
  refine Met.enter (L0 := #[SI 10, SI 2]) (Jvm.Free.JP.mathPlain rfl (by decide +kernel)) (fun m => ef22_2 m ) ?_
  intro p e s m below meth c s₁ hx hby hml hown hnm hret hlk hZ X0 e0
  have N0 := Fr.nil n0
  have Z0 := own_z0 O0
  have K0 : Keep h0 h0 [] := Keep.refl h0 _
  refine Go.st (t' := s₁.setTop (mkF m 10 #[SI 10, SI 2] [(.int 2)])) (fun target kt => ?_) ?_
  · refine XS.iloadN X0.here hx rfl (hb hby d22_0) rfl ?_
    refine XS.iloadN X0.here hx rfl (hb hby d22_1) rfl ?_
    refine XS.icmpYes X0.here hx rfl (pc0 := 2) (pc' := 9) rfl (hb hby d22_2) rfl (tlt (by decide : (2 : Int32) < (10 : Int32))).2.2.1 (by decide) (by decide) ?_
    refine XS.iloadN X0.here hx rfl (hb hby d22_9) rfl ?_
    exact kt
  refine Go.ret X0 (v := some (.int 2)) (fun h => by rw [hret] at h; cases h) hlk (fun fs hr => retI X0 hx hret (hb hby d22_10) hr) ?_ (by decide) (by decide)
  show Q22_2 Z  h0 n0 _ s₁.heap _
  rw [e0]
  exact ⟨rfl, N0, rfl⟩
theorem ef21_2 (m : MethodId) (x0 : Addr) (x2 : Addr) : entryFrame m #[(.ref x0), (.int 2), (.ref x2)] 4 = mkF m 0 #[SR x0, SI 2, SR x2, .unset] [] := by first | (simp [entryFrame, mkF, argsToLocals, Value.category]; done) | rfl
def Q21_2 (Z : State) (ed : Addr) (wm : Addr) (ke : ClassId) (y0 : Addr) (y1 : Addr) (h0 : Heap) (n0 : Nat) (v : Option Value) (h : Heap) (L : List Loc) : Prop := ∃ (b : Addr) (kb : ClassId), v = some (.ref b) ∧ Fr n0 L ∧ Keep h0 h [] ∧ h0.size ≤ b ∧ Ovr Z kb sq1 ∧ Exa Z h b sq2 ∧ Arv Z h b kb (.object sq1) (2 : Int32) [(.ref y0), (.ref y1)] .null
theorem rm21_2 (l : Launch) (Z : State) (a0 : Array Value) (hw : ∀ d ∈ tables_1, d.before a0 Z = true) (ws : List Jvm.Cond) (ed : Addr) (wm : Addr) (ke : ClassId) (y0 : Addr) (y1 : Addr) (h0 : Heap) (n0 : Nat) (O0 : Old Z n0 h0) (M_AO : MirM Z sq2 wm) (E_d : Exa Z h0 ed sq2) (V_d : Arv Z h0 ed ke (.object sq1) (10 : Int32) [(.ref y0), (.ref y1), .null, .null] .null) (I_y0 : Ins Z h0 y0 sq1 true) (I_y1 : Ins Z h0 y1 sq1 true) :
    Met l Z ws mm11 jdk_65_method_120_code 4 (some (.array (.object sq1))) (Rm 1 1 2 18) #[(.ref ed), (.int 2), (.ref wm)] h0 (Q21_2 Z ed wm ke y0 y1 h0 n0) := by
  refine Met.enter (L0 := #[SR ed, SI 2, SR wm, .unset]) (plainFor_of_name pn248) (fun m => ef21_2 m ed wm) ?_
  intro p e s m below meth c s₁ hx hby hml hown hnm hret hlk hZ X0 e0
  have N0 := Fr.nil n0
  have Z0 := own_z0 O0
  have K0 : Keep h0 h0 [] := Keep.refl h0 _
  refine Go.st (t' := s₁.setTop (mkF m 1 #[SR ed, SI 2, SR wm, .unset] [(.ref wm)])) (fun target kt => ?_) ?_
  · refine XS.aloadN X0.here hx rfl (hb hby d21_0) rfl rfl ?_
    exact kt
  obtain ⟨T10, X10, e10, st10⟩ := own_ldcM X0 hx hZ hown (hw _ tw165) e0 M_AO (g := (mkF m 1 #[SR ed, SI 2, SR wm, .unset] [(.ref wm)])) rfl (hb hby d21_1)
  refine Go.st st10 ?_
  refine Go.st (t' := T10.setTop (mkF m 7 #[SR ed, SI 2, SR wm, .unset] [(.int 2)])) (fun target kt => ?_) ?_
  · refine Jvm.RoadKit.acmp (g := (mkF m 3 #[SR ed, SI 2, SR wm, .unset] [(.ref wm), (.ref wm)])) X10 hx rfl rfl rfl (pc0 := 3) (pc' := 6) (same := true) rfl (hb hby d21_3) rfl (decide_eq_true rfl) (by decide) (by decide) ?_
    refine XS.iloadN X10.here hx rfl (hb hby d21_6) rfl ?_
    exact kt
  obtain ⟨T11, h11, k11, X11, e11, E11, A11, B11, O'11, st11⟩ := newRE X10 hx hZ hown (hw _ tw166) (hw _ tw98) e10 (g := (mkF m 7 #[SR ed, SI 2, SR wm, .unset] [(.int 2)])) rfl (hb hby d21_7) rfl (by decide) (cap := 2) (by decide) (by decide) (by decide) (by decide) (ad := sq2) (by decide)
  obtain ⟨b11, g11⟩ : ∃ z, z = h0.size := ⟨_, rfl⟩
  rw [← g11] at A11 B11 st11
  have lb12 : h0.size ≤ b11 := Nat.le_of_eq g11.symm
  have sz13 : h0.size ≤ b11 := Nat.le_trans K0.1 lb12
  have g14 : n0 ≤ b11 := Nat.le_trans Z0 sz13
  have K15 := K0.ext E11
  have O16 := O0.ext E11
  have V17 : Arv Z h11 b11 k11 (.object sq1) (2 : Int32) [.null, .null] .null := (Arv.new A11 (by decide)).pad (pad_rep [] .null 2)
  refine Go.st st11 ?_
  have c19 := V_d.keep K15 nin0
  obtain ⟨cl18, Ar18, -, S18, M18, -, -⟩ := id c19
  refine Go.st (t' := T11.setTop (mkF m 32 #[SR ed, SI 2, SR wm, SR b11] [(.int 2), (.int 10), (.int 0), (.ref b11), (.int 0), (.ref ed)])) (fun target kt => ?_) ?_
  · refine XS.goto X11.here hx rfl (pc0 := 10) (pc' := 24) rfl (hb hby d21_10) (by decide) (by decide) ?_
    refine XS.astoreN X11.here hx rfl (hb hby d21_24) rfl rfl (l' := #[SR ed, SI 2, SR wm, SR b11]) rfl ?_
    refine XS.aloadN X11.here hx rfl (hb hby d21_25) rfl rfl ?_
    refine XS.iconst X11.here hx rfl (hb hby d21_26) ?_
    refine XS.aloadN X11.here hx rfl (hb hby d21_27) rfl rfl ?_
    refine XS.iconst X11.here hx rfl (hb hby d21_28) ?_
    refine XS.aloadN X11.here hx rfl (hb hby d21_29) rfl rfl ?_
    refine X11.arraylength hx (by rw [e11]; exact Ar18.1) (State.isArrayOf_alike hZ.alike Ar18.2.1) (g := (mkF m 30 #[SR ed, SI 2, SR wm, SR b11] [(.ref ed), (.int 0), (.ref b11), (.int 0), (.ref ed)])) rfl rfl (hb hby d21_30) _ ?_
    rw [len_of S18 M18]
    refine XS.iloadN X11.here hx rfl (hb hby d21_31) rfl ?_
    exact kt
  refine Go.cps (own_cs (W := 4) (argsL := [(.int 10), (.int 2)]) (rest := [(.int 0), (.ref b11), (.int 0), (.ref ed)]) X11 hx hZ hown (hw _ tw167) (hw _ tw168) (hw _ tw169) (hw _ tw95) (by decide) e11 (rm22_2 l Z a0 hw []  h11 n0 O16  ) rfl (by rw [hml]; rfl) (lenOf pd2 rfl) rfl (Nat.le_of_eq rfl) (hb hby d21_32) rfl (by decide)) ?_
  rintro T20 _ L20 X20 ⟨rfl, Nq20, eq20⟩
  have N20 := Fr.app N0 Nq20
  obtain ⟨cl21, Ar21, q21, -, -, -, -⟩ := id V17
  have c22 := I_y1.keep K15
  have c23 := I_y0.keep K15
  have sl21 : StoL Z h11 b11 [(.ref y0), (.ref y1)] := ⟨Sto.ofV Ar21 q21 O'11 c23, ⟨Sto.ofV Ar21 q21 O'11 c22, trivial⟩⟩
  obtain ⟨T21, h21, L21, X21, e21, N21, Kq21, V21, st21⟩ := cpA X20 hx hZ hown (hw _ tw170) (hw _ tw173) (hw _ tw171) (hw _ tw172) eq20 c19 V17 (Or.inr ⟨rfl, rfl, sl21⟩) (sp := (0 : Int32)) (dp := (0 : Int32)) (nn := (2 : Int32)) (by decide) (by decide) (by decide) (by decide) (by decide) rfl (by decide) N20 g14 (g := (mkF m 35 #[SR ed, SI 2, SR wm, SR b11] [(.int 2), (.int 0), (.ref b11), (.int 0), (.ref ed)])) rfl (by rw [hml]; rfl) rfl (hb hby d21_35) (by decide) (W := 0) (by show 2 * 0 + _ ≤ _; exact Nat.le_of_eq rfl) (by decide)
  have K24 := K15.trans Kq21 (allS (Or.inr sz13) all0)
  have O25 := O16.keep Kq21 (allS g14 all0)
  have V26 : Arv Z h21 b11 k11 (.object sq1) (2 : Int32) [(.ref y0), (.ref y1)] .null := V21
  refine Go.st st21 ?_
  refine Go.st (t' := T21.setTop (mkF m 39 #[SR ed, SI 2, SR wm, SR b11] [(.ref b11)])) (fun target kt => ?_) ?_
  · refine XS.aloadN X21.here hx rfl (hb hby d21_38) rfl rfl ?_
    exact kt
  have c27 := B11.keep Kq21
  refine Go.ret X21 (v := some (.ref b11)) (fun h => by rw [hret] at h; cases h) hlk (fun fs hr => retR X21 hx hret rfl rfl (hb hby d21_39) hr) ?_ (by decide) (by decide)
  show Q21_2 Z ed wm ke y0 y1 h0 n0 _ T21.heap _
  rw [e21]
  exact ⟨b11, k11, rfl, N21, K24, sz13, (by first | assumption | decide | omega), c27, V26⟩
def Q20_2 (Z : State) (ed : Addr) (wm : Addr) (ke : ClassId) (y0 : Addr) (y1 : Addr) (h0 : Heap) (n0 : Nat) (v : Option Value) (h : Heap) (L : List Loc) : Prop := ∃ (b : Addr) (kb : ClassId), v = some (.ref b) ∧ Fr n0 L ∧ Keep h0 h [] ∧ h0.size ≤ b ∧ Ovr Z kb sq1 ∧ Exa Z h b sq2 ∧ Arv Z h b kb (.object sq1) (2 : Int32) [(.ref y0), (.ref y1)] .null
theorem rm20_2 (l : Launch) (Z : State) (a0 : Array Value) (hw : ∀ d ∈ tables_1, d.before a0 Z = true) (ws : List Jvm.Cond) (ed : Addr) (wm : Addr) (ke : ClassId) (y0 : Addr) (y1 : Addr) (h0 : Heap) (n0 : Nat) (O0 : Old Z n0 h0) (M_AO : MirM Z sq2 wm) (E_d : Exa Z h0 ed sq2) (V_d : Arv Z h0 ed ke (.object sq1) (10 : Int32) [(.ref y0), (.ref y1), .null, .null] .null) (I_y0 : Ins Z h0 y0 sq1 true) (I_y1 : Ins Z h0 y1 sq1 true) :
    Met l Z ws mm12 jdk_65_method_119_code 2 (some (.array (.object sq1))) (Rm 2 1 2 33) #[(.ref ed), (.int 2)] h0 (Q20_2 Z ed wm ke y0 y1 h0 n0) := by
  refine Met.enter (L0 := #[SR ed, SI 2]) (plainFor_of_name pn248) (fun m => ef33_2_3 m ed) ?_
  intro p e s m below meth c s₁ hx hby hml hown hnm hret hlk hZ X0 e0
  have N0 := Fr.nil n0
  have Z0 := own_z0 O0
  have K0 : Keep h0 h0 [] := Keep.refl h0 _
  refine Go.st (t' := s₁.setTop (mkF m 3 #[SR ed, SI 2] [(.ref ed), (.int 2), (.ref ed)])) (fun target kt => ?_) ?_
  · refine XS.aloadN X0.here hx rfl (hb hby d20_0) rfl rfl ?_
    refine XS.iloadN X0.here hx rfl (hb hby d20_1) rfl ?_
    refine XS.aloadN X0.here hx rfl (hb hby d20_2) rfl rfl ?_
    exact kt
  obtain ⟨T10, X10, e10, st10⟩ := own_gcls X0 hx hZ hown (hw _ tw156) (hw _ tw157) (hw _ tw159) (hw _ tw158) (hw _ tw160) e0 E_d M_AO (g := (mkF m 3 #[SR ed, SI 2] [(.ref ed), (.int 2), (.ref ed)])) rfl (by rw [hml]; rfl) rfl (hb hby d20_3) (by decide) (W := 2) (by show 2 * 0 + _ ≤ _; exact Nat.le_of_eq rfl) (by decide)
  refine Go.st st10 ?_
  refine Go.cps (own_cs (W := 0) (argsL := [(.ref ed), (.int 2), (.ref wm)]) (rest := []) X10 hx hZ hown (hw _ tw162) (hw _ tw163) (hw _ tw164) (hw _ tw154) (by decide) e10 (rm21_2 l Z a0 hw [] ed wm ke y0 y1 h0 n0 O0 M_AO E_d V_d I_y0 I_y1) rfl (by rw [hml]; rfl) (lenOf pd12 rfl) rfl (Nat.le_of_eq rfl) (hb hby d20_6) rfl (by decide)) ?_
  rintro T11 _ L11 X11 ⟨b12, k13, rfl, Nq11, Kq11, q14, q15, q16, q17⟩
  have N11 := Fr.app N0 Nq11
  have sz18 : h0.size ≤ b12 := Nat.le_trans K0.1 q14
  have g19 : n0 ≤ b12 := Nat.le_trans Z0 sz18
  have K20 := K0.trans Kq11 all0
  have O21 := O0.keep Kq11 all0
  refine Go.ret X11 (v := some (.ref b12)) (fun h => by rw [hret] at h; cases h) hlk (fun fs hr => retR X11 hx hret rfl rfl (hb hby d20_9) hr) ?_ (by decide) (by decide)
  show Q20_2 Z ed wm ke y0 y1 h0 n0 _ T11.heap _
  exact ⟨b12, k13, rfl, N11, K20, sz18, (by first | assumption | decide | omega), q16, q17⟩
def Q19_2 (Z : State) (a0_ : Addr) (wm : Addr) (ed : Addr) (ke : ClassId) (y0 : Addr) (y1 : Addr) (h0 : Heap) (n0 : Nat) (v : Option Value) (h : Heap) (L : List Loc) : Prop := ∃ (b : Addr) (kb : ClassId), v = some (.ref b) ∧ Fr n0 L ∧ Keep h0 h [] ∧ h0.size ≤ b ∧ Ovr Z kb sq1 ∧ Exa Z h b sq2 ∧ Arv Z h b kb (.object sq1) (2 : Int32) [(.ref y0), (.ref y1)] .null
theorem rm19_2 (l : Launch) (Z : State) (a0 : Array Value) (hw : ∀ d ∈ tables_1, d.before a0 Z = true) (ws : List Jvm.Cond) (a0_ : Addr) (wm : Addr) (ed : Addr) (ke : ClassId) (y0 : Addr) (y1 : Addr) (h0 : Heap) (n0 : Nat) (O0 : Old Z n0 h0) (M_AO : MirM Z sq2 wm) (E0 : Exa Z h0 a0_ sq0) (F_d : Fld Z h0 a0_ sq0 sq10 sq2 (.ref ed)) (F_s : Fld Z h0 a0_ sq0 "size" "I" (.int 2)) (E_d : Exa Z h0 ed sq2) (V_d : Arv Z h0 ed ke (.object sq1) (10 : Int32) [(.ref y0), (.ref y1), .null, .null] .null) (I_y0 : Ins Z h0 y0 sq1 true) (I_y1 : Ins Z h0 y1 sq1 true) :
    Met l Z ws mm13 jdk_38_method_16_code 1 (some (.array (.object sq1))) (Rm 3 1 2 46) #[(.ref a0_)] h0 (Q19_2 Z a0_ wm ed ke y0 y1 h0 n0) := by
  refine Met.enter (L0 := #[SR a0_]) (plainFor_of_name pn55) (fun m => ef3 m a0_) ?_
  intro p e s m below meth c s₁ hx hby hml hown hnm hret hlk hZ X0 e0
  have N0 := Fr.nil n0
  have Z0 := own_z0 O0
  have K0 : Keep h0 h0 [] := Keep.refl h0 _
  refine Go.st (t' := s₁.setTop (mkF m 1 #[SR a0_] [(.ref a0_)])) (fun target kt => ?_) ?_
  · refine XS.aloadN X0.here hx rfl (hb hby d19_0) rfl rfl ?_
    exact kt
  obtain ⟨T10, X10, e10, st10⟩ := getF X0 hx hZ hown (host := "") (Or.inl (hw _ tw67)) Via.refl e0 F_d (g := (mkF m 1 #[SR a0_] [(.ref a0_)])) rfl rfl (hb hby d19_1)
  refine Go.st st10 ?_
  refine Go.st (t' := T10.setTop (mkF m 5 #[SR a0_] [(.ref a0_), (.ref ed)])) (fun target kt => ?_) ?_
  · refine XS.aloadN X10.here hx rfl (hb hby d19_4) rfl rfl ?_
    exact kt
  obtain ⟨T11, X11, e11, st11⟩ := getF X10 hx hZ hown (host := "") (Or.inl (hw _ tw76)) Via.refl e10 F_s (g := (mkF m 5 #[SR a0_] [(.ref a0_), (.ref ed)])) rfl rfl (hb hby d19_5)
  refine Go.st st11 ?_
  refine Go.cps (own_cs (W := 0) (argsL := [(.ref ed), (.int 2)]) (rest := []) X11 hx hZ hown (hw _ tw152) (hw _ tw153) (hw _ tw155) (hw _ tw154) (by decide) e11 (rm20_2 l Z a0 hw [] ed wm ke y0 y1 h0 n0 O0 M_AO E_d V_d I_y0 I_y1) rfl (by rw [hml]; rfl) (lenOf pd13 rfl) rfl (Nat.le_of_eq rfl) (hb hby d19_8) rfl (by decide)) ?_
  rintro T12 _ L12 X12 ⟨b13, k14, rfl, Nq12, Kq12, q15, q16, q17, q18⟩
  have N12 := Fr.app N0 Nq12
  have sz19 : h0.size ≤ b13 := Nat.le_trans K0.1 q15
  have g20 : n0 ≤ b13 := Nat.le_trans Z0 sz19
  have K21 := K0.trans Kq12 all0
  have O22 := O0.keep Kq12 all0
  refine Go.ret X12 (v := some (.ref b13)) (fun h => by rw [hret] at h; cases h) hlk (fun fs hr => retR X12 hx hret rfl rfl (hb hby d19_11) hr) ?_ (by decide) (by decide)
  show Q19_2 Z a0_ wm ed ke y0 y1 h0 n0 _ T12.heap _
  exact ⟨b13, k14, rfl, N12, K21, sz19, (by first | assumption | decide | omega), q17, q18⟩
theorem d23_45 : decode zc4 45 = .ok (.new 96, 3) := by decide +kernel
theorem d23_48 : decode zc4 48 = .ok (.dup, 1) := by decide +kernel
theorem d23_49 : decode zc4 49 = .ok (.aload_n 0, 1) := by decide +kernel
theorem d23_50 : decode zc4 50 = .ok (.iconst 0, 1) := by decide +kernel
theorem d23_51 : decode zc4 51 = .ok (.aaload, 1) := by decide +kernel
theorem d23_52 : decode zc4 52 = .ok (.aload_n 0, 1) := by decide +kernel
theorem d23_53 : decode zc4 53 = .ok (.iconst 1, 1) := by decide +kernel
theorem d23_54 : decode zc4 54 = .ok (.aaload, 1) := by decide +kernel
theorem d23_55 : decode zc4 55 = .ok (.invokespecial 100, 3) := by decide +kernel
theorem tw249 : (Cond.methodLink sq3 100 ⟨sq6, "<init>", sq47⟩) ∈ tables_1 := mAt 249 rfl
theorem tw251 : (Cond.code ⟨sq6, "<init>", sq47⟩ jdk_44_method_2_code 3 (Option.none : Option Jvm.ClassFile.FieldType)) ∈ tables_1 := mAt 251 rfl
theorem pd16 : parseMethodDescriptor "(Ljava/lang/Object;Ljava/lang/Object;)V" = some ⟨[(.object "java/lang/Object"), (.object "java/lang/Object")], none⟩ := by decide +kernel
theorem tw250 : (Cond.instanceMethod ⟨sq6, "<init>", sq47⟩) ∈ tables_1 := mAt 250 rfl
theorem d23_58 : decode zc4 58 = .ok (.areturn, 1) := by decide +kernel
def Q23_2 (Z : State) (ar : Addr) (ka : ClassId) (y0 : Addr) (y1 : Addr) (h0 : Heap) (n0 : Nat) (v : Option Value) (h : Heap) (L : List Loc) : Prop := ∃ (r : Addr), v = some (.ref r) ∧ Fr n0 L ∧ Keep h0 h [] ∧ h0.size ≤ r ∧ Exa Z h r sq6 ∧ Fld Z h r sq6 "e0" sq12 (.ref y0) ∧ Fld Z h r sq6 "e1" sq12 (.ref y1)
theorem rm23_2 (l : Launch) (Z : State) (a0 : Array Value) (hw : ∀ d ∈ tables_1, d.before a0 Z = true) (ws : List Jvm.Cond) (ar : Addr) (ka : ClassId) (y0 : Addr) (y1 : Addr) (h0 : Heap) (n0 : Nat) (O0 : Old Z n0 h0) (V_a : Arv Z h0 ar ka (.object sq1) (2 : Int32) [(.ref y0), (.ref y1)] .null) :
    Met l Z ws mm14 jdk_40_method_47_code 2 (some (.object sq3)) (Rm 5 1 2 63) #[(.ref ar)] h0 (Q23_2 Z ar ka y0 y1 h0 n0) := by
  refine Met.enter (L0 := #[SR ar, .unset]) (plainFor_of_name pn206) (fun m => ef18_0 m ar) ?_
  intro p e s m below meth c s₁ hx hby hml hown hnm hret hlk hZ X0 e0
  have N0 := Fr.nil n0
  have Z0 := own_z0 O0
  have K0 : Keep h0 h0 [] := Keep.refl h0 _
  obtain ⟨cl10, Ar10, -, S10, M10, -, -⟩ := id V_a
  refine Go.st (t' := s₁.setTop (mkF m 45 #[SR ar, .unset] [])) (fun target kt => ?_) ?_
  · refine XS.aloadN X0.here hx rfl (hb hby d23_0) rfl rfl ?_
    refine X0.arraylength hx (by rw [e0]; exact Ar10.1) (State.isArrayOf_alike hZ.alike Ar10.2.1) (g := (mkF m 1 #[SR ar, .unset] [(.ref ar)])) rfl rfl (hb hby d23_1) _ ?_
    rw [len_of S10 M10]
    refine XS.tswIn X0.here hx rfl (pc0 := 2) (pc' := 45) (o := 43) rfl (hb hby d23_2) rfl (by decide) rfl (by decide) (by decide) ?_
    exact kt
  obtain ⟨T11, h11, X11, e11, E11, A11, D11, -, st11⟩ := newO X0 hx hZ hown (hw _ tw177) (hw _ tw178) (hw _ tw179) e0 (g := (mkF m 45 #[SR ar, .unset] [])) rfl (hb hby d23_45) (by decide) (by decide)
  obtain ⟨b11, g11⟩ : ∃ z, z = h0.size := ⟨_, rfl⟩
  rw [← g11] at A11 D11 st11
  have lb12 : h0.size ≤ b11 := Nat.le_of_eq g11.symm
  have sz13 : h0.size ≤ b11 := Nat.le_trans K0.1 lb12
  have g14 : n0 ≤ b11 := Nat.le_trans Z0 sz13
  have K15 := K0.ext E11
  have O16 := O0.ext E11
  have F17 : Fld Z h11 b11 sq6 "e0" sq12 .null := D11 (Or.inr (hw _ tw203)) (ty := (.object sq1)) (by decide)
  have F18 : Fld Z h11 b11 sq6 "e1" sq12 .null := D11 (Or.inr (hw _ tw206)) (ty := (.object sq1)) (by decide)
  refine Go.st st11 ?_
  have c19 := V_a.keep K15 nin0
  obtain ⟨cl20, Ar20, -, S20, M20, H20, -⟩ := id c19
  have hin20 : ¬ ((0 : Int32) < 0 ∨ cl20.slots.size ≤ ((0 : Int32)).toNatClampNeg) := inb_of S20 ⟨by decide, by decide⟩
  have hat20 : cl20.slots[((0 : Int32)).toNatClampNeg]? = some (.ref y0) := H20.at hin20 rfl
  obtain ⟨cl21, Ar21, -, S21, M21, H21, -⟩ := id c19
  have hin21 : ¬ ((1 : Int32) < 0 ∨ cl21.slots.size ≤ ((1 : Int32)).toNatClampNeg) := inb_of S21 ⟨by decide, by decide⟩
  have hat21 : cl21.slots[((1 : Int32)).toNatClampNeg]? = some (.ref y1) := H21.at hin21 rfl
  refine Go.st (t' := T11.setTop (mkF m 55 #[SR ar, .unset] [(.ref y1), (.ref y0), (.ref b11), (.ref b11)])) (fun target kt => ?_) ?_
  · refine XS.dup X11.here hx rfl (hb hby d23_48) rfl rfl ?_
    refine XS.aloadN X11.here hx rfl (hb hby d23_49) rfl rfl ?_
    refine XS.iconst X11.here hx rfl (hb hby d23_50) ?_
    refine X11.aaload hx (j := (0 : Int32)) (v := (.ref y0)) (by rw [e11]; exact Ar20.1) (State.isArrayOf_alike hZ.alike Ar20.2.1) rfl Ar20.2.2 hin20 hat20 (g := (mkF m 51 #[SR ar, .unset] [(.int 0), (.ref ar), (.ref b11), (.ref b11)])) rfl rfl (hb hby d23_51) _ ?_
    refine XS.aloadN X11.here hx rfl (hb hby d23_52) rfl rfl ?_
    refine XS.iconst X11.here hx rfl (hb hby d23_53) ?_
    refine X11.aaload hx (j := (1 : Int32)) (v := (.ref y1)) (by rw [e11]; exact Ar21.1) (State.isArrayOf_alike hZ.alike Ar21.2.1) rfl Ar21.2.2 hin21 hat21 (g := (mkF m 54 #[SR ar, .unset] [(.int 1), (.ref ar), (.ref y0), (.ref b11), (.ref b11)])) rfl rfl (hb hby d23_54) _ ?_
    exact kt
  refine Go.cps (own_ci (W := 1) (b := b11) (argsL := [(.ref y0), (.ref y1)]) (rest := [(.ref b11)]) X11 hx hZ hown rfl (hw _ tw249) (hw _ tw250) (hw _ tw251) (hw _ tw179) (by decide) e11 (rm35 l Z a0 hw [] b11 y0 y1 h11 n0 O16  A11 g14 F17 F18) rfl (by rw [hml]; rfl) (lenOf pd16 rfl) rfl (Nat.le_of_eq rfl) (hb hby d23_55) rfl (by decide)) ?_
  rintro T22 _ L22 X22 ⟨rfl, Nq22, Kq22, q23, q24, q25⟩
  have N22 := Fr.app N0 Nq22
  have K26 := K15.trans Kq22 (allS (Or.inr sz13) all0)
  have O27 := O16.keep Kq22 (allS g14 all0)
  refine Go.ret X22 (v := some (.ref b11)) (fun h => by rw [hret] at h; cases h) hlk (fun fs hr => retR X22 hx hret rfl rfl (hb hby d23_58) hr) ?_ (by decide) (by decide)
  show Q23_2 Z ar ka y0 y1 h0 n0 _ T22.heap _
  exact ⟨b11, rfl, N22, K26, sz13, q23, q24, q25⟩
def Q18_2 (Z : State) (a0_ : Addr) (wm : Addr) (ed : Addr) (ke : ClassId) (y0 : Addr) (y1 : Addr) (h0 : Heap) (n0 : Nat) (v : Option Value) (h : Heap) (L : List Loc) : Prop := ∃ (r : Addr), v = some (.ref r) ∧ Fr n0 L ∧ Keep h0 h [] ∧ h0.size ≤ r ∧ Exa Z h r sq6 ∧ Fld Z h r sq6 "e0" sq12 (.ref y0) ∧ Fld Z h r sq6 "e1" sq12 (.ref y1)
theorem rm18_2 (l : Launch) (Z : State) (a0 : Array Value) (hw : ∀ d ∈ tables_1, d.before a0 Z = true) (ws : List Jvm.Cond) (a0_ : Addr) (wm : Addr) (ed : Addr) (ke : ClassId) (y0 : Addr) (y1 : Addr) (h0 : Heap) (n0 : Nat) (O0 : Old Z n0 h0) (M_AO : MirM Z sq2 wm) (E0 : Exa Z h0 a0_ sq0) (F_d : Fld Z h0 a0_ sq0 sq10 sq2 (.ref ed)) (F_s : Fld Z h0 a0_ sq0 "size" "I" (.int 2)) (E_d : Exa Z h0 ed sq2) (V_d : Arv Z h0 ed ke (.object sq1) (10 : Int32) [(.ref y0), (.ref y1), .null, .null] .null) (I_y0 : Ins Z h0 y0 sq1 true) (I_y1 : Ins Z h0 y1 sq1 true) :
    Met l Z ws mm4 jdk_56_method_3_code 2 (some (.object sq3)) (Rm 6 2 4 76) #[(.ref a0_)] h0 (Q18_2 Z a0_ wm ed ke y0 y1 h0 n0) := by
  refine Met.enter (L0 := #[SR a0_, .unset]) (plainFor_of_name pn221) (fun m => ef18_0 m a0_) ?_
  intro p e s m below meth c s₁ hx hby hml hown hnm hret hlk hZ X0 e0
  have N0 := Fr.nil n0
  have Z0 := own_z0 O0
  have K0 : Keep h0 h0 [] := Keep.refl h0 _
  refine Go.st (t' := s₁.setTop (mkF m 1 #[SR a0_, .unset] [(.ref a0_)])) (fun target kt => ?_) ?_
  · refine XS.aloadN X0.here hx rfl (hb hby d18_0) rfl rfl ?_
    exact kt
  obtain ⟨T10, X10, e10, st10⟩ := instNo X0 hx hZ hown (hw _ tw133) e0 E0 (own_nsno (hw _ tw134) (hw _ tw178) (NS.step (hw _ tw134) (NS.step (hw _ tw135) (NS.step (hw _ tw136) (own_nsroot (hw _ tw137) (hw _ tw178) (by decide)) (by decide)) (by decide)) (by decide)) (by decide)) (g := (mkF m 1 #[SR a0_, .unset] [(.ref a0_)])) rfl rfl (hb hby d18_1)
  refine Go.st st10 ?_
  refine Go.st (t' := T10.setTop (mkF m 8 #[SR a0_, .unset] [(.ref a0_)])) (fun target kt => ?_) ?_
  · refine XS.ifNo X10.here hx rfl (hb hby d18_4) rfl ((if0 _ _).trans (teq (by decide : (0 : Int32) = (0 : Int32))).2) ?_
    refine XS.aloadN X10.here hx rfl (hb hby d18_7) rfl rfl ?_
    exact kt
  obtain ⟨T11, X11, e11, st11⟩ := instNo X10 hx hZ hown (hw _ tw138) e10 E0 (own_nsno (hw _ tw134) (hw _ tw257) (NS.step (hw _ tw134) (NS.step (hw _ tw135) (NS.step (hw _ tw136) (own_nsroot (hw _ tw137) (hw _ tw257) (by decide)) (by decide)) (by decide)) (by decide)) (by decide)) (g := (mkF m 8 #[SR a0_, .unset] [(.ref a0_)])) rfl rfl (hb hby d18_8)
  refine Go.st st11 ?_
  refine Go.st (t' := T11.setTop (mkF m 32 #[SR a0_, .unset] [(.ref a0_)])) (fun target kt => ?_) ?_
  · refine XS.ifYes X11.here hx rfl (pc0 := 11) (pc' := 31) rfl (hb hby d18_11) rfl ((if0 _ _).trans (teq (by decide : (0 : Int32) = (0 : Int32))).1) (by decide) (by decide) ?_
    refine XS.aloadN X11.here hx rfl (hb hby d18_31) rfl rfl ?_
    exact kt
  refine Go.cps (own_cf (W := 0) (b := a0_) (argsL := []) (rest := []) X11 hx hZ hown (hw _ tw139) (hw _ tw140) (hw _ tw141) (hw _ tw142) (hw _ tw112) (hw _ tw113) (hw _ tw114) (hw _ tw143) (hw _ tw116) (hw _ tw47) (by decide) e11 E0 (rm15_0 l Z a0 hw [] a0_ (2 : Int32) h0 n0 O0  F_s (by decide : ¬ ((2 : Int32) = (0 : Int32)))) rfl (by rw [hml]; rfl) (lenOf pd9 rfl) rfl (Nat.le_of_eq rfl) (hb hby d18_32) rfl (by decide)) ?_
  rintro T12 _ L12 X12 ⟨rfl, Nq12, eq12⟩
  have N12 := Fr.app N0 Nq12
  refine Go.st (t' := T12.setTop (mkF m 45 #[SR a0_, .unset] [(.ref a0_)])) (fun target kt => ?_) ?_
  · refine XS.ifYes X12.here hx rfl (pc0 := 37) (pc' := 44) rfl (hb hby d18_37) rfl ((if0 _ _).trans (teq (by decide : (0 : Int32) = (0 : Int32))).1) (by decide) (by decide) ?_
    refine XS.aloadN X12.here hx rfl (hb hby d18_44) rfl rfl ?_
    exact kt
  refine Go.cps (own_cf (W := 0) (b := a0_) (argsL := []) (rest := []) X12 hx hZ hown (hw _ tw144) (hw _ tw145) (hw _ tw146) (hw _ tw147) (hw _ tw148) (hw _ tw149) (hw _ tw150) (hw _ tw143) (hw _ tw151) (hw _ tw47) (by decide) eq12 E0 (rm19_2 l Z a0 hw [] a0_ wm ed ke y0 y1 h0 n0 O0 M_AO E0 F_d F_s E_d V_d I_y0 I_y1) rfl (by rw [hml]; rfl) (lenOf pd4 rfl) rfl (Nat.le_of_eq rfl) (hb hby d18_45) rfl (by decide)) ?_
  rintro T13 _ L13 X13 ⟨b14, k15, rfl, Nq13, Kq13, q16, q17, q18, q19⟩
  have N13 := Fr.app N12 Nq13
  have sz20 : h0.size ≤ b14 := Nat.le_trans K0.1 q16
  have g21 : n0 ≤ b14 := Nat.le_trans Z0 sz20
  have K22 := K0.trans Kq13 all0
  have O23 := O0.keep Kq13 all0
  refine Go.cps (own_cs (W := 0) (argsL := [(.ref b14)]) (rest := []) X13 hx hZ hown (hw _ tw174) (hw _ tw175) (hw _ tw176) (hw _ tw127) (by decide) rfl (rm23_2 l Z a0 hw [] b14 k15 y0 y1 T13.heap n0 O23  q19) rfl (by rw [hml]; rfl) (lenOf pd15 rfl) rfl (Nat.le_of_eq rfl) (hb hby d18_50) rfl (by decide)) ?_
  rintro T24 _ L24 X24 ⟨b25, rfl, Nq24, Kq24, q26, q27, q28, q29⟩
  have N24 := Fr.app N13 Nq24
  have sz30 : h0.size ≤ b25 := Nat.le_trans K22.1 q26
  have g31 : n0 ≤ b25 := Nat.le_trans Z0 sz30
  have K32 := K22.trans Kq24 all0
  have O33 := O23.keep Kq24 all0
  refine Go.ret X24 (v := some (.ref b25)) (fun h => by rw [hret] at h; cases h) hlk (fun fs hr => retR X24 hx hret rfl rfl (hb hby d18_53) hr) ?_ (by decide) (by decide)
  show Q18_2 Z a0_ wm ed ke y0 y1 h0 n0 _ T24.heap _
  exact ⟨b25, rfl, N24, K32, sz30, q27, q28, q29⟩
def Q17_2 (Z : State) (a0_ : Addr) (wm : Addr) (ed : Addr) (ke : ClassId) (y0 : Addr) (y1 : Addr) (h0 : Heap) (n0 : Nat) (v : Option Value) (h : Heap) (L : List Loc) : Prop := ∃ (r : Addr), v = some (.ref r) ∧ Fr n0 L ∧ Keep h0 h [] ∧ h0.size ≤ r ∧ Exa Z h r sq6 ∧ Fld Z h r sq6 "e0" sq12 (.ref y0) ∧ Fld Z h r sq6 "e1" sq12 (.ref y1)
theorem rm17_2 (l : Launch) (Z : State) (a0 : Array Value) (hw : ∀ d ∈ tables_1, d.before a0 Z = true) (ws : List Jvm.Cond) (a0_ : Addr) (wm : Addr) (ed : Addr) (ke : ClassId) (y0 : Addr) (y1 : Addr) (h0 : Heap) (n0 : Nat) (O0 : Old Z n0 h0) (M_AO : MirM Z sq2 wm) (E0 : Exa Z h0 a0_ sq0) (F_d : Fld Z h0 a0_ sq0 sq10 sq2 (.ref ed)) (F_s : Fld Z h0 a0_ sq0 "size" "I" (.int 2)) (E_d : Exa Z h0 ed sq2) (V_d : Arv Z h0 ed ke (.object sq1) (10 : Int32) [(.ref y0), (.ref y1), .null, .null] .null) (I_y0 : Ins Z h0 y0 sq1 true) (I_y1 : Ins Z h0 y1 sq1 true) :
    Met l Z ws mm5 jdk_40_method_48_code 1 (some (.object sq3)) (Rm 7 2 4 89) #[(.ref a0_)] h0 (Q17_2 Z a0_ wm ed ke y0 y1 h0 n0) := by
  refine Met.enter (L0 := #[SR a0_]) (plainFor_of_name pn206) (fun m => ef3 m a0_) ?_
  intro p e s m below meth c s₁ hx hby hml hown hnm hret hlk hZ X0 e0
  have N0 := Fr.nil n0
  have Z0 := own_z0 O0
  have K0 : Keep h0 h0 [] := Keep.refl h0 _
  refine Go.st (t' := s₁.setTop (mkF m 1 #[SR a0_] [(.ref a0_)])) (fun target kt => ?_) ?_
  · refine XS.aloadN X0.here hx rfl (hb hby d17_0) rfl rfl ?_
    exact kt
  refine Go.cps (own_cs (W := 0) (argsL := [(.ref a0_)]) (rest := []) X0 hx hZ hown (hw _ tw129) (hw _ tw130) (hw _ tw132) (hw _ tw131) (by decide) e0 (rm18_2 l Z a0 hw [] a0_ wm ed ke y0 y1 h0 n0 O0 M_AO E0 F_d F_s E_d V_d I_y0 I_y1) rfl (by rw [hml]; rfl) (lenOf pd11 rfl) rfl (Nat.le_of_eq rfl) (hb hby d17_1) rfl (by decide)) ?_
  rintro T10 _ L10 X10 ⟨b11, rfl, Nq10, Kq10, q12, q13, q14, q15⟩
  have N10 := Fr.app N0 Nq10
  have sz16 : h0.size ≤ b11 := Nat.le_trans K0.1 q12
  have g17 : n0 ≤ b11 := Nat.le_trans Z0 sz16
  have K18 := K0.trans Kq10 all0
  have O19 := O0.keep Kq10 all0
  refine Go.ret X10 (v := some (.ref b11)) (fun h => by rw [hret] at h; cases h) hlk (fun fs hr => retR X10 hx hret rfl rfl (hb hby d17_4) hr) ?_ (by decide) (by decide)
  show Q17_2 Z a0_ wm ed ke y0 y1 h0 n0 _ T10.heap _
  exact ⟨b11, rfl, N10, K18, sz16, q13, q14, q15⟩
theorem ef22_3 (m : MethodId)  : entryFrame m #[(.int 10), (.int 3)] 2 = mkF m 0 #[SI 10, SI 3] [] := by first | (simp [entryFrame, mkF, argsToLocals, Value.category]; done) | rfl
def Q22_3 (Z : State)  (h0 : Heap) (n0 : Nat) (v : Option Value) (h : Heap) (L : List Loc) : Prop := v = some (.int 3) ∧ Fr n0 L ∧ h = h0
theorem rm22_3 (l : Launch) (Z : State) (a0 : Array Value) (hw : ∀ d ∈ tables_1, d.before a0 Z = true) (ws : List Jvm.Cond)  (h0 : Heap) (n0 : Nat) (O0 : Old Z n0 h0) :
    Met l Z ws mm10 jdk_29_method_69_code 2 (some .int) (Rm 0 0 0 0) #[(.int 10), (.int 3)] h0 (Q22_3 Z  h0 n0) := by
  refine Met.enter (L0 := #[SI 10, SI 3]) (Jvm.Free.JP.mathPlain rfl (by decide +kernel)) (fun m => ef22_3 m ) ?_
  intro p e s m below meth c s₁ hx hby hml hown hnm hret hlk hZ X0 e0
  have N0 := Fr.nil n0
  have Z0 := own_z0 O0
  have K0 : Keep h0 h0 [] := Keep.refl h0 _
  refine Go.st (t' := s₁.setTop (mkF m 10 #[SI 10, SI 3] [(.int 3)])) (fun target kt => ?_) ?_
  · refine XS.iloadN X0.here hx rfl (hb hby d22_0) rfl ?_
    refine XS.iloadN X0.here hx rfl (hb hby d22_1) rfl ?_
    refine XS.icmpYes X0.here hx rfl (pc0 := 2) (pc' := 9) rfl (hb hby d22_2) rfl (tlt (by decide : (3 : Int32) < (10 : Int32))).2.2.1 (by decide) (by decide) ?_
    refine XS.iloadN X0.here hx rfl (hb hby d22_9) rfl ?_
    exact kt
  refine Go.ret X0 (v := some (.int 3)) (fun h => by rw [hret] at h; cases h) hlk (fun fs hr => retI X0 hx hret (hb hby d22_10) hr) ?_ (by decide) (by decide)
  show Q22_3 Z  h0 n0 _ s₁.heap _
  rw [e0]
  exact ⟨rfl, N0, rfl⟩
theorem ef21_3 (m : MethodId) (x0 : Addr) (x2 : Addr) : entryFrame m #[(.ref x0), (.int 3), (.ref x2)] 4 = mkF m 0 #[SR x0, SI 3, SR x2, .unset] [] := by first | (simp [entryFrame, mkF, argsToLocals, Value.category]; done) | rfl
def Q21_3 (Z : State) (ed : Addr) (wm : Addr) (ke : ClassId) (y0 : Addr) (y1 : Addr) (y2 : Addr) (h0 : Heap) (n0 : Nat) (v : Option Value) (h : Heap) (L : List Loc) : Prop := ∃ (b : Addr) (kb : ClassId), v = some (.ref b) ∧ Fr n0 L ∧ Keep h0 h [] ∧ h0.size ≤ b ∧ Ovr Z kb sq1 ∧ Exa Z h b sq2 ∧ Arv Z h b kb (.object sq1) (3 : Int32) [(.ref y0), (.ref y1), (.ref y2)] .null
theorem rm21_3 (l : Launch) (Z : State) (a0 : Array Value) (hw : ∀ d ∈ tables_1, d.before a0 Z = true) (ws : List Jvm.Cond) (ed : Addr) (wm : Addr) (ke : ClassId) (y0 : Addr) (y1 : Addr) (y2 : Addr) (h0 : Heap) (n0 : Nat) (O0 : Old Z n0 h0) (M_AO : MirM Z sq2 wm) (E_d : Exa Z h0 ed sq2) (V_d : Arv Z h0 ed ke (.object sq1) (10 : Int32) [(.ref y0), (.ref y1), (.ref y2), .null] .null) (I_y0 : Ins Z h0 y0 sq1 true) (I_y1 : Ins Z h0 y1 sq1 true) (I_y2 : Ins Z h0 y2 sq1 true) :
    Met l Z ws mm11 jdk_65_method_120_code 4 (some (.array (.object sq1))) (Rm 1 1 3 18) #[(.ref ed), (.int 3), (.ref wm)] h0 (Q21_3 Z ed wm ke y0 y1 y2 h0 n0) := by
  refine Met.enter (L0 := #[SR ed, SI 3, SR wm, .unset]) (plainFor_of_name pn248) (fun m => ef21_3 m ed wm) ?_
  intro p e s m below meth c s₁ hx hby hml hown hnm hret hlk hZ X0 e0
  have N0 := Fr.nil n0
  have Z0 := own_z0 O0
  have K0 : Keep h0 h0 [] := Keep.refl h0 _
  refine Go.st (t' := s₁.setTop (mkF m 1 #[SR ed, SI 3, SR wm, .unset] [(.ref wm)])) (fun target kt => ?_) ?_
  · refine XS.aloadN X0.here hx rfl (hb hby d21_0) rfl rfl ?_
    exact kt
  obtain ⟨T10, X10, e10, st10⟩ := own_ldcM X0 hx hZ hown (hw _ tw165) e0 M_AO (g := (mkF m 1 #[SR ed, SI 3, SR wm, .unset] [(.ref wm)])) rfl (hb hby d21_1)
  refine Go.st st10 ?_
  refine Go.st (t' := T10.setTop (mkF m 7 #[SR ed, SI 3, SR wm, .unset] [(.int 3)])) (fun target kt => ?_) ?_
  · refine Jvm.RoadKit.acmp (g := (mkF m 3 #[SR ed, SI 3, SR wm, .unset] [(.ref wm), (.ref wm)])) X10 hx rfl rfl rfl (pc0 := 3) (pc' := 6) (same := true) rfl (hb hby d21_3) rfl (decide_eq_true rfl) (by decide) (by decide) ?_
    refine XS.iloadN X10.here hx rfl (hb hby d21_6) rfl ?_
    exact kt
  obtain ⟨T11, h11, k11, X11, e11, E11, A11, B11, O'11, st11⟩ := newRE X10 hx hZ hown (hw _ tw166) (hw _ tw98) e10 (g := (mkF m 7 #[SR ed, SI 3, SR wm, .unset] [(.int 3)])) rfl (hb hby d21_7) rfl (by decide) (cap := 3) (by decide) (by decide) (by decide) (by decide) (ad := sq2) (by decide)
  obtain ⟨b11, g11⟩ : ∃ z, z = h0.size := ⟨_, rfl⟩
  rw [← g11] at A11 B11 st11
  have lb12 : h0.size ≤ b11 := Nat.le_of_eq g11.symm
  have sz13 : h0.size ≤ b11 := Nat.le_trans K0.1 lb12
  have g14 : n0 ≤ b11 := Nat.le_trans Z0 sz13
  have K15 := K0.ext E11
  have O16 := O0.ext E11
  have V17 : Arv Z h11 b11 k11 (.object sq1) (3 : Int32) [.null, .null, .null] .null := (Arv.new A11 (by decide)).pad (pad_rep [] .null 3)
  refine Go.st st11 ?_
  have c19 := V_d.keep K15 nin0
  obtain ⟨cl18, Ar18, -, S18, M18, -, -⟩ := id c19
  refine Go.st (t' := T11.setTop (mkF m 32 #[SR ed, SI 3, SR wm, SR b11] [(.int 3), (.int 10), (.int 0), (.ref b11), (.int 0), (.ref ed)])) (fun target kt => ?_) ?_
  · refine XS.goto X11.here hx rfl (pc0 := 10) (pc' := 24) rfl (hb hby d21_10) (by decide) (by decide) ?_
    refine XS.astoreN X11.here hx rfl (hb hby d21_24) rfl rfl (l' := #[SR ed, SI 3, SR wm, SR b11]) rfl ?_
    refine XS.aloadN X11.here hx rfl (hb hby d21_25) rfl rfl ?_
    refine XS.iconst X11.here hx rfl (hb hby d21_26) ?_
    refine XS.aloadN X11.here hx rfl (hb hby d21_27) rfl rfl ?_
    refine XS.iconst X11.here hx rfl (hb hby d21_28) ?_
    refine XS.aloadN X11.here hx rfl (hb hby d21_29) rfl rfl ?_
    refine X11.arraylength hx (by rw [e11]; exact Ar18.1) (State.isArrayOf_alike hZ.alike Ar18.2.1) (g := (mkF m 30 #[SR ed, SI 3, SR wm, SR b11] [(.ref ed), (.int 0), (.ref b11), (.int 0), (.ref ed)])) rfl rfl (hb hby d21_30) _ ?_
    rw [len_of S18 M18]
    refine XS.iloadN X11.here hx rfl (hb hby d21_31) rfl ?_
    exact kt
  refine Go.cps (own_cs (W := 4) (argsL := [(.int 10), (.int 3)]) (rest := [(.int 0), (.ref b11), (.int 0), (.ref ed)]) X11 hx hZ hown (hw _ tw167) (hw _ tw168) (hw _ tw169) (hw _ tw95) (by decide) e11 (rm22_3 l Z a0 hw []  h11 n0 O16  ) rfl (by rw [hml]; rfl) (lenOf pd2 rfl) rfl (Nat.le_of_eq rfl) (hb hby d21_32) rfl (by decide)) ?_
  rintro T20 _ L20 X20 ⟨rfl, Nq20, eq20⟩
  have N20 := Fr.app N0 Nq20
  obtain ⟨cl21, Ar21, q21, -, -, -, -⟩ := id V17
  have c22 := I_y2.keep K15
  have c23 := I_y1.keep K15
  have c24 := I_y0.keep K15
  have sl21 : StoL Z h11 b11 [(.ref y0), (.ref y1), (.ref y2)] := ⟨Sto.ofV Ar21 q21 O'11 c24, ⟨Sto.ofV Ar21 q21 O'11 c23, ⟨Sto.ofV Ar21 q21 O'11 c22, trivial⟩⟩⟩
  obtain ⟨T21, h21, L21, X21, e21, N21, Kq21, V21, st21⟩ := cpA X20 hx hZ hown (hw _ tw170) (hw _ tw173) (hw _ tw171) (hw _ tw172) eq20 c19 V17 (Or.inr ⟨rfl, rfl, sl21⟩) (sp := (0 : Int32)) (dp := (0 : Int32)) (nn := (3 : Int32)) (by decide) (by decide) (by decide) (by decide) (by decide) rfl (by decide) N20 g14 (g := (mkF m 35 #[SR ed, SI 3, SR wm, SR b11] [(.int 3), (.int 0), (.ref b11), (.int 0), (.ref ed)])) rfl (by rw [hml]; rfl) rfl (hb hby d21_35) (by decide) (W := 0) (by show 2 * 0 + _ ≤ _; exact Nat.le_of_eq rfl) (by decide)
  have K25 := K15.trans Kq21 (allS (Or.inr sz13) all0)
  have O26 := O16.keep Kq21 (allS g14 all0)
  have V27 : Arv Z h21 b11 k11 (.object sq1) (3 : Int32) [(.ref y0), (.ref y1), (.ref y2)] .null := V21
  refine Go.st st21 ?_
  refine Go.st (t' := T21.setTop (mkF m 39 #[SR ed, SI 3, SR wm, SR b11] [(.ref b11)])) (fun target kt => ?_) ?_
  · refine XS.aloadN X21.here hx rfl (hb hby d21_38) rfl rfl ?_
    exact kt
  have c28 := B11.keep Kq21
  refine Go.ret X21 (v := some (.ref b11)) (fun h => by rw [hret] at h; cases h) hlk (fun fs hr => retR X21 hx hret rfl rfl (hb hby d21_39) hr) ?_ (by decide) (by decide)
  show Q21_3 Z ed wm ke y0 y1 y2 h0 n0 _ T21.heap _
  rw [e21]
  exact ⟨b11, k11, rfl, N21, K25, sz13, (by first | assumption | decide | omega), c28, V27⟩
theorem ef20_3 (m : MethodId) (x0 : Addr) : entryFrame m #[(.ref x0), (.int 3)] 2 = mkF m 0 #[SR x0, SI 3] [] := by first | (simp [entryFrame, mkF, argsToLocals, Value.category]; done) | rfl
def Q20_3 (Z : State) (ed : Addr) (wm : Addr) (ke : ClassId) (y0 : Addr) (y1 : Addr) (y2 : Addr) (h0 : Heap) (n0 : Nat) (v : Option Value) (h : Heap) (L : List Loc) : Prop := ∃ (b : Addr) (kb : ClassId), v = some (.ref b) ∧ Fr n0 L ∧ Keep h0 h [] ∧ h0.size ≤ b ∧ Ovr Z kb sq1 ∧ Exa Z h b sq2 ∧ Arv Z h b kb (.object sq1) (3 : Int32) [(.ref y0), (.ref y1), (.ref y2)] .null
theorem rm20_3 (l : Launch) (Z : State) (a0 : Array Value) (hw : ∀ d ∈ tables_1, d.before a0 Z = true) (ws : List Jvm.Cond) (ed : Addr) (wm : Addr) (ke : ClassId) (y0 : Addr) (y1 : Addr) (y2 : Addr) (h0 : Heap) (n0 : Nat) (O0 : Old Z n0 h0) (M_AO : MirM Z sq2 wm) (E_d : Exa Z h0 ed sq2) (V_d : Arv Z h0 ed ke (.object sq1) (10 : Int32) [(.ref y0), (.ref y1), (.ref y2), .null] .null) (I_y0 : Ins Z h0 y0 sq1 true) (I_y1 : Ins Z h0 y1 sq1 true) (I_y2 : Ins Z h0 y2 sq1 true) :
    Met l Z ws mm12 jdk_65_method_119_code 2 (some (.array (.object sq1))) (Rm 2 1 3 33) #[(.ref ed), (.int 3)] h0 (Q20_3 Z ed wm ke y0 y1 y2 h0 n0) := by
  refine Met.enter (L0 := #[SR ed, SI 3]) (plainFor_of_name pn248) (fun m => ef20_3 m ed) ?_
  intro p e s m below meth c s₁ hx hby hml hown hnm hret hlk hZ X0 e0
  have N0 := Fr.nil n0
  have Z0 := own_z0 O0
  have K0 : Keep h0 h0 [] := Keep.refl h0 _
  refine Go.st (t' := s₁.setTop (mkF m 3 #[SR ed, SI 3] [(.ref ed), (.int 3), (.ref ed)])) (fun target kt => ?_) ?_
  · refine XS.aloadN X0.here hx rfl (hb hby d20_0) rfl rfl ?_
    refine XS.iloadN X0.here hx rfl (hb hby d20_1) rfl ?_
    refine XS.aloadN X0.here hx rfl (hb hby d20_2) rfl rfl ?_
    exact kt
  obtain ⟨T10, X10, e10, st10⟩ := own_gcls X0 hx hZ hown (hw _ tw156) (hw _ tw157) (hw _ tw159) (hw _ tw158) (hw _ tw160) e0 E_d M_AO (g := (mkF m 3 #[SR ed, SI 3] [(.ref ed), (.int 3), (.ref ed)])) rfl (by rw [hml]; rfl) rfl (hb hby d20_3) (by decide) (W := 2) (by show 2 * 0 + _ ≤ _; exact Nat.le_of_eq rfl) (by decide)
  refine Go.st st10 ?_
  refine Go.cps (own_cs (W := 0) (argsL := [(.ref ed), (.int 3), (.ref wm)]) (rest := []) X10 hx hZ hown (hw _ tw162) (hw _ tw163) (hw _ tw164) (hw _ tw154) (by decide) e10 (rm21_3 l Z a0 hw [] ed wm ke y0 y1 y2 h0 n0 O0 M_AO E_d V_d I_y0 I_y1 I_y2) rfl (by rw [hml]; rfl) (lenOf pd12 rfl) rfl (Nat.le_of_eq rfl) (hb hby d20_6) rfl (by decide)) ?_
  rintro T11 _ L11 X11 ⟨b12, k13, rfl, Nq11, Kq11, q14, q15, q16, q17⟩
  have N11 := Fr.app N0 Nq11
  have sz18 : h0.size ≤ b12 := Nat.le_trans K0.1 q14
  have g19 : n0 ≤ b12 := Nat.le_trans Z0 sz18
  have K20 := K0.trans Kq11 all0
  have O21 := O0.keep Kq11 all0
  refine Go.ret X11 (v := some (.ref b12)) (fun h => by rw [hret] at h; cases h) hlk (fun fs hr => retR X11 hx hret rfl rfl (hb hby d20_9) hr) ?_ (by decide) (by decide)
  show Q20_3 Z ed wm ke y0 y1 y2 h0 n0 _ T11.heap _
  exact ⟨b12, k13, rfl, N11, K20, sz18, (by first | assumption | decide | omega), q16, q17⟩
def Q19_3 (Z : State) (a0_ : Addr) (wm : Addr) (ed : Addr) (ke : ClassId) (y0 : Addr) (y1 : Addr) (y2 : Addr) (h0 : Heap) (n0 : Nat) (v : Option Value) (h : Heap) (L : List Loc) : Prop := ∃ (b : Addr) (kb : ClassId), v = some (.ref b) ∧ Fr n0 L ∧ Keep h0 h [] ∧ h0.size ≤ b ∧ Ovr Z kb sq1 ∧ Exa Z h b sq2 ∧ Arv Z h b kb (.object sq1) (3 : Int32) [(.ref y0), (.ref y1), (.ref y2)] .null
theorem rm19_3 (l : Launch) (Z : State) (a0 : Array Value) (hw : ∀ d ∈ tables_1, d.before a0 Z = true) (ws : List Jvm.Cond) (a0_ : Addr) (wm : Addr) (ed : Addr) (ke : ClassId) (y0 : Addr) (y1 : Addr) (y2 : Addr) (h0 : Heap) (n0 : Nat) (O0 : Old Z n0 h0) (M_AO : MirM Z sq2 wm) (E0 : Exa Z h0 a0_ sq0) (F_d : Fld Z h0 a0_ sq0 sq10 sq2 (.ref ed)) (F_s : Fld Z h0 a0_ sq0 "size" "I" (.int 3)) (E_d : Exa Z h0 ed sq2) (V_d : Arv Z h0 ed ke (.object sq1) (10 : Int32) [(.ref y0), (.ref y1), (.ref y2), .null] .null) (I_y0 : Ins Z h0 y0 sq1 true) (I_y1 : Ins Z h0 y1 sq1 true) (I_y2 : Ins Z h0 y2 sq1 true) :
    Met l Z ws mm13 jdk_38_method_16_code 1 (some (.array (.object sq1))) (Rm 3 1 3 46) #[(.ref a0_)] h0 (Q19_3 Z a0_ wm ed ke y0 y1 y2 h0 n0) := by
  refine Met.enter (L0 := #[SR a0_]) (plainFor_of_name pn55) (fun m => ef3 m a0_) ?_
  intro p e s m below meth c s₁ hx hby hml hown hnm hret hlk hZ X0 e0
  have N0 := Fr.nil n0
  have Z0 := own_z0 O0
  have K0 : Keep h0 h0 [] := Keep.refl h0 _
  refine Go.st (t' := s₁.setTop (mkF m 1 #[SR a0_] [(.ref a0_)])) (fun target kt => ?_) ?_
  · refine XS.aloadN X0.here hx rfl (hb hby d19_0) rfl rfl ?_
    exact kt
  obtain ⟨T10, X10, e10, st10⟩ := getF X0 hx hZ hown (host := "") (Or.inl (hw _ tw67)) Via.refl e0 F_d (g := (mkF m 1 #[SR a0_] [(.ref a0_)])) rfl rfl (hb hby d19_1)
  refine Go.st st10 ?_
  refine Go.st (t' := T10.setTop (mkF m 5 #[SR a0_] [(.ref a0_), (.ref ed)])) (fun target kt => ?_) ?_
  · refine XS.aloadN X10.here hx rfl (hb hby d19_4) rfl rfl ?_
    exact kt
  obtain ⟨T11, X11, e11, st11⟩ := getF X10 hx hZ hown (host := "") (Or.inl (hw _ tw76)) Via.refl e10 F_s (g := (mkF m 5 #[SR a0_] [(.ref a0_), (.ref ed)])) rfl rfl (hb hby d19_5)
  refine Go.st st11 ?_
  refine Go.cps (own_cs (W := 0) (argsL := [(.ref ed), (.int 3)]) (rest := []) X11 hx hZ hown (hw _ tw152) (hw _ tw153) (hw _ tw155) (hw _ tw154) (by decide) e11 (rm20_3 l Z a0 hw [] ed wm ke y0 y1 y2 h0 n0 O0 M_AO E_d V_d I_y0 I_y1 I_y2) rfl (by rw [hml]; rfl) (lenOf pd13 rfl) rfl (Nat.le_of_eq rfl) (hb hby d19_8) rfl (by decide)) ?_
  rintro T12 _ L12 X12 ⟨b13, k14, rfl, Nq12, Kq12, q15, q16, q17, q18⟩
  have N12 := Fr.app N0 Nq12
  have sz19 : h0.size ≤ b13 := Nat.le_trans K0.1 q15
  have g20 : n0 ≤ b13 := Nat.le_trans Z0 sz19
  have K21 := K0.trans Kq12 all0
  have O22 := O0.keep Kq12 all0
  refine Go.ret X12 (v := some (.ref b13)) (fun h => by rw [hret] at h; cases h) hlk (fun fs hr => retR X12 hx hret rfl rfl (hb hby d19_11) hr) ?_ (by decide) (by decide)
  show Q19_3 Z a0_ wm ed ke y0 y1 y2 h0 n0 _ T12.heap _
  exact ⟨b13, k14, rfl, N12, K21, sz19, (by first | assumption | decide | omega), q17, q18⟩
theorem d36_0 : decode zc2 0 = .ok (.aload_n 0, 1) := by decide +kernel
theorem d36_1 : decode zc2 1 = .ok (.arraylength, 1) := by decide +kernel
theorem d36_2 : decode zc2 2 = .ok (.anewarray 2, 3) := by decide +kernel
theorem tw255 : (Cond.classLink sq14 2 sq1) ∈ tables_1 := mAt 255 rfl
theorem d36_5 : decode zc2 5 = .ok (.astore_n 1, 1) := by decide +kernel
theorem d36_6 : decode zc2 6 = .ok (.iconst 0, 1) := by decide +kernel
theorem d36_7 : decode zc2 7 = .ok (.istore_n 2, 1) := by decide +kernel
theorem d36_8 : decode zc2 8 = .ok (.iload_n 2, 1) := by decide +kernel
theorem d36_9 : decode zc2 9 = .ok (.aload_n 0, 1) := by decide +kernel
theorem d36_10 : decode zc2 10 = .ok (.arraylength, 1) := by decide +kernel
theorem d36_11 : decode zc2 11 = .ok (.if_icmp .ge 18, 3) := by decide +kernel
theorem d36_14 : decode zc2 14 = .ok (.aload_n 1, 1) := by decide +kernel
theorem d36_15 : decode zc2 15 = .ok (.iload_n 2, 1) := by decide +kernel
theorem d36_16 : decode zc2 16 = .ok (.aload_n 0, 1) := by decide +kernel
theorem d36_17 : decode zc2 17 = .ok (.iload_n 2, 1) := by decide +kernel
theorem d36_18 : decode zc2 18 = .ok (.aaload, 1) := by decide +kernel
theorem d36_19 : decode zc2 19 = .ok (.invokestatic 37, 3) := by decide +kernel
theorem tw256 : (Cond.methodLink sq14 37 ⟨sq24, "requireNonNull", sq41⟩) ∈ tables_1 := mAt 256 rfl
theorem d36_22 : decode zc2 22 = .ok (.aastore, 1) := by decide +kernel
theorem d36_23 : decode zc2 23 = .ok (.iinc 2 1, 3) := by decide +kernel
theorem d36_26 : decode zc2 26 = .ok (.goto (-18), 3) := by decide +kernel
theorem d36_29 : decode zc2 29 = .ok (.new 12, 3) := by decide +kernel
theorem tw258 : (Cond.initialized sq7) ∈ tables_1 := mAt 258 rfl
theorem d36_32 : decode zc2 32 = .ok (.dup, 1) := by decide +kernel
theorem d36_33 : decode zc2 33 = .ok (.aload_n 1, 1) := by decide +kernel
theorem d36_34 : decode zc2 34 = .ok (.iconst 0, 1) := by decide +kernel
theorem d36_35 : decode zc2 35 = .ok (.invokespecial 43, 3) := by decide +kernel
theorem tw259 : (Cond.methodLinkNest sq14 43 ⟨sq7, "<init>", "([Ljava/lang/Object;Z)V"⟩ sq14) ∈ tables_1 := mAt 259 rfl
theorem tw262 : (Cond.code ⟨sq7, "<init>", "([Ljava/lang/Object;Z)V"⟩ jdk_45_method_1_code 3 (Option.none : Option Jvm.ClassFile.FieldType)) ∈ tables_1 := mAt 262 rfl
theorem pd17 : parseMethodDescriptor "([Ljava/lang/Object;Z)V" = some ⟨[(.array (.object "java/lang/Object")), .boolean], none⟩ := by decide +kernel
theorem tw260 : (Cond.instanceMethod ⟨sq7, "<init>", "([Ljava/lang/Object;Z)V"⟩) ∈ tables_1 := mAt 260 rfl
theorem d36_38 : decode zc2 38 = .ok (.areturn, 1) := by decide +kernel
theorem ef36 (m : MethodId) (x0 : Addr) : entryFrame m #[(.ref x0)] 3 = mkF m 0 #[SR x0, .unset, .unset] [] := by first | (simp [entryFrame, mkF, argsToLocals, Value.category]; done) | rfl
def Q36 (Z : State) (ar : Addr) (ka : ClassId) (y0 : Addr) (y1 : Addr) (y2 : Addr) (h0 : Heap) (n0 : Nat) (v : Option Value) (h : Heap) (L : List Loc) : Prop := ∃ (r : Addr) (re : Addr) (kr : ClassId), v = some (.ref r) ∧ Fr n0 L ∧ Keep h0 h [] ∧ h0.size ≤ r ∧ h0.size ≤ re ∧ Exa Z h r sq7 ∧ Fld Z h r sq7 "elements" sq2 (.ref re) ∧ Arv Z h re kr (.object sq1) (3 : Int32) [(.ref y0), (.ref y1), (.ref y2)] .null
theorem rm36 (l : Launch) (Z : State) (a0 : Array Value) (hw : ∀ d ∈ tables_1, d.before a0 Z = true) (ws : List Jvm.Cond) (ar : Addr) (ka : ClassId) (y0 : Addr) (y1 : Addr) (y2 : Addr) (h0 : Heap) (n0 : Nat) (O0 : Old Z n0 h0) (V_a : Arv Z h0 ar ka (.object sq1) (3 : Int32) [(.ref y0), (.ref y1), (.ref y2)] .null) (I_y0 : Ins Z h0 y0 sq1 true) (I_y1 : Ins Z h0 y1 sq1 true) (I_y2 : Ins Z h0 y2 sq1 true) :
    Met l Z ws (⟨sq14, "listFromArray", sq29⟩ : MethodName) jdk_56_method_4_code 3 (some (.object sq3)) (Rm 5 2 5 63) #[(.ref ar)] h0 (Q36 Z ar ka y0 y1 y2 h0 n0) := by
  refine Met.enter (L0 := #[SR ar, .unset, .unset]) (plainFor_of_name pn221) (fun m => ef36 m ar) ?_
  intro p e s m below meth c s₁ hx hby hml hown hnm hret hlk hZ X0 e0
  have N0 := Fr.nil n0
  have Z0 := own_z0 O0
  have K0 : Keep h0 h0 [] := Keep.refl h0 _
  obtain ⟨cl10, Ar10, -, S10, M10, -, -⟩ := id V_a
  refine Go.st (t' := s₁.setTop (mkF m 2 #[SR ar, .unset, .unset] [(.int 3)])) (fun target kt => ?_) ?_
  · refine XS.aloadN X0.here hx rfl (hb hby d36_0) rfl rfl ?_
    refine X0.arraylength hx (by rw [e0]; exact Ar10.1) (State.isArrayOf_alike hZ.alike Ar10.2.1) (g := (mkF m 1 #[SR ar, .unset, .unset] [(.ref ar)])) rfl rfl (hb hby d36_1) _ ?_
    rw [len_of S10 M10]
    exact kt
  obtain ⟨T11, h11, k11, X11, e11, E11, A11, B11, O'11, st11⟩ := newRE X0 hx hZ hown (hw _ tw255) (hw _ tw98) e0 (g := (mkF m 2 #[SR ar, .unset, .unset] [(.int 3)])) rfl (hb hby d36_2) rfl (by decide) (cap := 3) (by decide) (by decide) (by decide) (by decide) (ad := sq2) (by decide)
  obtain ⟨b11, g11⟩ : ∃ z, z = h0.size := ⟨_, rfl⟩
  rw [← g11] at A11 B11 st11
  have lb12 : h0.size ≤ b11 := Nat.le_of_eq g11.symm
  have sz13 : h0.size ≤ b11 := Nat.le_trans K0.1 lb12
  have g14 : n0 ≤ b11 := Nat.le_trans Z0 sz13
  have K15 := K0.ext E11
  have O16 := O0.ext E11
  have V17 : Arv Z h11 b11 k11 (.object sq1) (3 : Int32) [.null, .null, .null] .null := (Arv.new A11 (by decide)).pad (pad_rep [] .null 3)
  refine Go.st st11 ?_
  have c19 := V_a.keep K15 nin0
  obtain ⟨cl18, Ar18, -, S18, M18, -, -⟩ := id c19
  obtain ⟨cl20, Ar20, -, S20, M20, H20, -⟩ := id c19
  have hin20 : ¬ ((0 : Int32) < 0 ∨ cl20.slots.size ≤ ((0 : Int32)).toNatClampNeg) := inb_of S20 ⟨by decide, by decide⟩
  have hat20 : cl20.slots[((0 : Int32)).toNatClampNeg]? = some (.ref y0) := H20.at hin20 rfl
  refine Go.st (t' := T11.setTop (mkF m 19 #[SR ar, SR b11, SI 0] [(.ref y0), (.int 0), (.ref b11)])) (fun target kt => ?_) ?_
  · refine XS.astoreN X11.here hx rfl (hb hby d36_5) rfl rfl (l' := #[SR ar, SR b11, .unset]) rfl ?_
    refine XS.iconst X11.here hx rfl (hb hby d36_6) ?_
    refine XS.istoreN X11.here hx rfl (hb hby d36_7) rfl (l' := #[SR ar, SR b11, SI 0]) rfl ?_
    refine XS.iloadN X11.here hx rfl (hb hby d36_8) rfl ?_
    refine XS.aloadN X11.here hx rfl (hb hby d36_9) rfl rfl ?_
    refine X11.arraylength hx (by rw [e11]; exact Ar18.1) (State.isArrayOf_alike hZ.alike Ar18.2.1) (g := (mkF m 10 #[SR ar, SR b11, SI 0] [(.ref ar), (.int 0)])) rfl rfl (hb hby d36_10) _ ?_
    rw [len_of S18 M18]
    refine XS.icmpNo X11.here hx rfl (hb hby d36_11) rfl (tlt (by decide : (0 : Int32) < (3 : Int32))).2.1 ?_
    refine XS.aloadN X11.here hx rfl (hb hby d36_14) rfl rfl ?_
    refine XS.iloadN X11.here hx rfl (hb hby d36_15) rfl ?_
    refine XS.aloadN X11.here hx rfl (hb hby d36_16) rfl rfl ?_
    refine XS.iloadN X11.here hx rfl (hb hby d36_17) rfl ?_
    refine X11.aaload hx (j := (0 : Int32)) (v := (.ref y0)) (by rw [e11]; exact Ar20.1) (State.isArrayOf_alike hZ.alike Ar20.2.1) rfl Ar20.2.2 hin20 hat20 (g := (mkF m 18 #[SR ar, SR b11, SI 0] [(.int 0), (.ref ar), (.int 0), (.ref b11)])) rfl rfl (hb hby d36_18) _ ?_
    exact kt
  refine Go.cps (own_cs (W := 2) (argsL := [(.ref y0)]) (rest := [(.int 0), (.ref b11)]) X11 hx hZ hown (hw _ tw256) (hw _ tw199) (hw _ tw201) (hw _ tw200) (by decide) e11 (rm27 l Z a0 hw [] y0 h11 n0 O16  ) rfl (by rw [hml]; rfl) (lenOf pd8 rfl) rfl (Nat.le_of_eq rfl) (hb hby d36_19) rfl (by decide)) ?_
  rintro T21 _ L21 X21 ⟨rfl, Nq21, eq21⟩
  have N21 := Fr.app N0 Nq21
  obtain ⟨cl22, Ar22, q22, S22, M22, H22, G22⟩ := id V17
  have hin22 : ¬ ((0 : Int32) < 0 ∨ cl22.slots.size ≤ ((0 : Int32)).toNatClampNeg) := inb_of S22 ⟨by decide, by decide⟩
  have c23 := I_y0.keep K15
  obtain ⟨T22, h22, X22, e22, W22, st22⟩ := stR X21 hx hZ eq21 Ar22 (j := (0 : Int32)) hin22 rfl (Sto.ofV Ar22 q22 O'11 c23) (g := (mkF m 22 #[SR ar, SR b11, SI 0] [(.ref y0), (.int 0), (.ref b11)])) rfl rfl (hb hby d36_22)
  have V24 : Arv Z h22 b11 k11 (.object sq1) (3 : Int32) [(.ref y0), .null, .null] .null := Arv.set Ar22 q22 S22 M22 H22 G22 rfl W22 0 rfl (Nat.le_of_ble_eq_true rfl)
  have K25 := K15.wr W22 (Or.inr sz13)
  have O26 := O16.wr W22 g14
  have N22 := Fr.snoc X22 N21 g14
  refine Go.st st22 ?_
  have o28 : ar < b11 := Nat.lt_of_lt_of_le V_a.lt lb12
  have ne29 : ar ≠ b11 := Nat.ne_of_lt o28
  have c30 := c19.other W22 ne29
  obtain ⟨cl27, Ar27, -, S27, M27, -, -⟩ := id c30
  obtain ⟨cl31, Ar31, -, S31, M31, H31, -⟩ := id c30
  have hin31 : ¬ ((1 : Int32) < 0 ∨ cl31.slots.size ≤ ((1 : Int32)).toNatClampNeg) := inb_of S31 ⟨by decide, by decide⟩
  have hat31 : cl31.slots[((1 : Int32)).toNatClampNeg]? = some (.ref y1) := H31.at hin31 rfl
  refine Go.st (t' := T22.setTop (mkF m 19 #[SR ar, SR b11, SI 1] [(.ref y1), (.int 1), (.ref b11)])) (fun target kt => ?_) ?_
  · refine XS.iinc X22.here hx rfl (hb hby d36_23) rfl (l' := #[SR ar, SR b11, SI 1]) rfl ?_
    refine XS.goto X22.here hx rfl (pc0 := 26) (pc' := 8) rfl (hb hby d36_26) (by decide) (by decide) ?_
    refine XS.iloadN X22.here hx rfl (hb hby d36_8) rfl ?_
    refine XS.aloadN X22.here hx rfl (hb hby d36_9) rfl rfl ?_
    refine X22.arraylength hx (by rw [e22]; exact Ar27.1) (State.isArrayOf_alike hZ.alike Ar27.2.1) (g := (mkF m 10 #[SR ar, SR b11, SI 1] [(.ref ar), (.int 1)])) rfl rfl (hb hby d36_10) _ ?_
    rw [len_of S27 M27]
    refine XS.icmpNo X22.here hx rfl (hb hby d36_11) rfl (tlt (by decide : (1 : Int32) < (3 : Int32))).2.1 ?_
    refine XS.aloadN X22.here hx rfl (hb hby d36_14) rfl rfl ?_
    refine XS.iloadN X22.here hx rfl (hb hby d36_15) rfl ?_
    refine XS.aloadN X22.here hx rfl (hb hby d36_16) rfl rfl ?_
    refine XS.iloadN X22.here hx rfl (hb hby d36_17) rfl ?_
    refine X22.aaload hx (j := (1 : Int32)) (v := (.ref y1)) (by rw [e22]; exact Ar31.1) (State.isArrayOf_alike hZ.alike Ar31.2.1) rfl Ar31.2.2 hin31 hat31 (g := (mkF m 18 #[SR ar, SR b11, SI 1] [(.int 1), (.ref ar), (.int 1), (.ref b11)])) rfl rfl (hb hby d36_18) _ ?_
    exact kt
  refine Go.cps (own_cs (W := 2) (argsL := [(.ref y1)]) (rest := [(.int 1), (.ref b11)]) X22 hx hZ hown (hw _ tw256) (hw _ tw199) (hw _ tw201) (hw _ tw200) (by decide) e22 (rm27 l Z a0 hw [] y1 h22 n0 O26  ) rfl (by rw [hml]; rfl) (lenOf pd8 rfl) rfl (Nat.le_of_eq rfl) (hb hby d36_19) rfl (by decide)) ?_
  rintro T32 _ L32 X32 ⟨rfl, Nq32, eq32⟩
  have N32 := Fr.app N22 Nq32
  obtain ⟨cl33, Ar33, q33, S33, M33, H33, G33⟩ := id V24
  have hin33 : ¬ ((1 : Int32) < 0 ∨ cl33.slots.size ≤ ((1 : Int32)).toNatClampNeg) := inb_of S33 ⟨by decide, by decide⟩
  have c34 := I_y1.keep K25
  obtain ⟨T33, h33, X33, e33, W33, st33⟩ := stR X32 hx hZ eq32 Ar33 (j := (1 : Int32)) hin33 rfl (Sto.ofV Ar33 q33 O'11 c34) (g := (mkF m 22 #[SR ar, SR b11, SI 1] [(.ref y1), (.int 1), (.ref b11)])) rfl rfl (hb hby d36_22)
  have V35 : Arv Z h33 b11 k11 (.object sq1) (3 : Int32) [(.ref y0), (.ref y1), .null] .null := Arv.set Ar33 q33 S33 M33 H33 G33 rfl W33 1 rfl (Nat.le_of_ble_eq_true rfl)
  have K36 := K25.wr W33 (Or.inr sz13)
  have O37 := O26.wr W33 g14
  have N33 := Fr.snoc X33 N32 g14
  refine Go.st st33 ?_
  have c39 := c30.other W33 ne29
  obtain ⟨cl38, Ar38, -, S38, M38, -, -⟩ := id c39
  obtain ⟨cl40, Ar40, -, S40, M40, H40, -⟩ := id c39
  have hin40 : ¬ ((2 : Int32) < 0 ∨ cl40.slots.size ≤ ((2 : Int32)).toNatClampNeg) := inb_of S40 ⟨by decide, by decide⟩
  have hat40 : cl40.slots[((2 : Int32)).toNatClampNeg]? = some (.ref y2) := H40.at hin40 rfl
  refine Go.st (t' := T33.setTop (mkF m 19 #[SR ar, SR b11, SI 2] [(.ref y2), (.int 2), (.ref b11)])) (fun target kt => ?_) ?_
  · refine XS.iinc X33.here hx rfl (hb hby d36_23) rfl (l' := #[SR ar, SR b11, SI 2]) rfl ?_
    refine XS.goto X33.here hx rfl (pc0 := 26) (pc' := 8) rfl (hb hby d36_26) (by decide) (by decide) ?_
    refine XS.iloadN X33.here hx rfl (hb hby d36_8) rfl ?_
    refine XS.aloadN X33.here hx rfl (hb hby d36_9) rfl rfl ?_
    refine X33.arraylength hx (by rw [e33]; exact Ar38.1) (State.isArrayOf_alike hZ.alike Ar38.2.1) (g := (mkF m 10 #[SR ar, SR b11, SI 2] [(.ref ar), (.int 2)])) rfl rfl (hb hby d36_10) _ ?_
    rw [len_of S38 M38]
    refine XS.icmpNo X33.here hx rfl (hb hby d36_11) rfl (tlt (by decide : (2 : Int32) < (3 : Int32))).2.1 ?_
    refine XS.aloadN X33.here hx rfl (hb hby d36_14) rfl rfl ?_
    refine XS.iloadN X33.here hx rfl (hb hby d36_15) rfl ?_
    refine XS.aloadN X33.here hx rfl (hb hby d36_16) rfl rfl ?_
    refine XS.iloadN X33.here hx rfl (hb hby d36_17) rfl ?_
    refine X33.aaload hx (j := (2 : Int32)) (v := (.ref y2)) (by rw [e33]; exact Ar40.1) (State.isArrayOf_alike hZ.alike Ar40.2.1) rfl Ar40.2.2 hin40 hat40 (g := (mkF m 18 #[SR ar, SR b11, SI 2] [(.int 2), (.ref ar), (.int 2), (.ref b11)])) rfl rfl (hb hby d36_18) _ ?_
    exact kt
  refine Go.cps (own_cs (W := 2) (argsL := [(.ref y2)]) (rest := [(.int 2), (.ref b11)]) X33 hx hZ hown (hw _ tw256) (hw _ tw199) (hw _ tw201) (hw _ tw200) (by decide) e33 (rm27 l Z a0 hw [] y2 h33 n0 O37  ) rfl (by rw [hml]; rfl) (lenOf pd8 rfl) rfl (Nat.le_of_eq rfl) (hb hby d36_19) rfl (by decide)) ?_
  rintro T41 _ L41 X41 ⟨rfl, Nq41, eq41⟩
  have N41 := Fr.app N33 Nq41
  obtain ⟨cl42, Ar42, q42, S42, M42, H42, G42⟩ := id V35
  have hin42 : ¬ ((2 : Int32) < 0 ∨ cl42.slots.size ≤ ((2 : Int32)).toNatClampNeg) := inb_of S42 ⟨by decide, by decide⟩
  have c43 := I_y2.keep K36
  obtain ⟨T42, h42, X42, e42, W42, st42⟩ := stR X41 hx hZ eq41 Ar42 (j := (2 : Int32)) hin42 rfl (Sto.ofV Ar42 q42 O'11 c43) (g := (mkF m 22 #[SR ar, SR b11, SI 2] [(.ref y2), (.int 2), (.ref b11)])) rfl rfl (hb hby d36_22)
  have V44 : Arv Z h42 b11 k11 (.object sq1) (3 : Int32) [(.ref y0), (.ref y1), (.ref y2)] .null := Arv.set Ar42 q42 S42 M42 H42 G42 rfl W42 2 rfl (Nat.le_of_ble_eq_true rfl)
  have K45 := K36.wr W42 (Or.inr sz13)
  have O46 := O37.wr W42 g14
  have N42 := Fr.snoc X42 N41 g14
  refine Go.st st42 ?_
  have c48 := c39.other W42 ne29
  obtain ⟨cl47, Ar47, -, S47, M47, -, -⟩ := id c48
  refine Go.st (t' := T42.setTop (mkF m 29 #[SR ar, SR b11, SI 3] [])) (fun target kt => ?_) ?_
  · refine XS.iinc X42.here hx rfl (hb hby d36_23) rfl (l' := #[SR ar, SR b11, SI 3]) rfl ?_
    refine XS.goto X42.here hx rfl (pc0 := 26) (pc' := 8) rfl (hb hby d36_26) (by decide) (by decide) ?_
    refine XS.iloadN X42.here hx rfl (hb hby d36_8) rfl ?_
    refine XS.aloadN X42.here hx rfl (hb hby d36_9) rfl rfl ?_
    refine X42.arraylength hx (by rw [e42]; exact Ar47.1) (State.isArrayOf_alike hZ.alike Ar47.2.1) (g := (mkF m 10 #[SR ar, SR b11, SI 3] [(.ref ar), (.int 3)])) rfl rfl (hb hby d36_10) _ ?_
    rw [len_of S47 M47]
    refine XS.icmpYes X42.here hx rfl (pc0 := 11) (pc' := 29) rfl (hb hby d36_11) rfl (flt (by decide : ¬ ((3 : Int32) < (3 : Int32)))).2.1 (by decide) (by decide) ?_
    exact kt
  obtain ⟨T49, h49, X49, e49, E49, A49, D49, -, st49⟩ := newO X42 hx hZ hown (hw _ tw138) (hw _ tw257) (hw _ tw258) e42 (g := (mkF m 29 #[SR ar, SR b11, SI 3] [])) rfl (hb hby d36_29) (by decide) (by decide)
  obtain ⟨b49, g49⟩ : ∃ z, z = h42.size := ⟨_, rfl⟩
  rw [← g49] at A49 D49 st49
  have lb50 : h42.size ≤ b49 := Nat.le_of_eq g49.symm
  have sz51 : h0.size ≤ b49 := Nat.le_trans K45.1 lb50
  have g52 : n0 ≤ b49 := Nat.le_trans Z0 sz51
  have K53 := K45.ext E49
  have O54 := O46.ext E49
  have F55 : Fld Z h49 b49 sq7 "elements" sq2 .null := D49 (Or.inr (hw _ tw268)) (ty := (.array (.object sq1))) (by decide)
  have F56 : Fld Z h49 b49 sq7 "allowNulls" "Z" (.int 0) := D49 (Or.inr (hw _ tw270)) (ty := .boolean) (by decide)
  refine Go.st st49 ?_
  refine Go.st (t' := T49.setTop (mkF m 35 #[SR ar, SR b11, SI 3] [(.int 0), (.ref b11), (.ref b49), (.ref b49)])) (fun target kt => ?_) ?_
  · refine XS.dup X49.here hx rfl (hb hby d36_32) rfl rfl ?_
    refine XS.aloadN X49.here hx rfl (hb hby d36_33) rfl rfl ?_
    refine XS.iconst X49.here hx rfl (hb hby d36_34) ?_
    exact kt
  refine Go.cps (own_cn (W := 1) (b := b49) (argsL := [(.ref b11), (.int 0)]) (rest := [(.ref b49)]) X49 hx hZ hown rfl (hw _ tw259) (hw _ tw260) (hw _ tw262) (hw _ tw258) (by decide) e49 (rm37 l Z a0 hw [] b49 b11 h49 n0 O54  A49 g52 F55 F56) rfl (by rw [hml]; rfl) (lenOf pd17 rfl) rfl (Nat.le_of_eq rfl) (hb hby d36_35) rfl (by decide)) ?_
  rintro T57 _ L57 X57 ⟨rfl, Nq57, Kq57, q58, q59⟩
  have N57 := Fr.app N42 Nq57
  have K60 := K53.trans Kq57 (allS (Or.inr sz51) all0)
  have O61 := O54.keep Kq57 (allS g52 all0)
  have S_62 : Keep h42 T57.heap [] := (((Keep.refl h42 []).ext E49).trans Kq57 (allS (Or.inr lb50) all0))
  have c63 := V44.keep S_62 nin0
  refine Go.ret X57 (v := some (.ref b49)) (fun h => by rw [hret] at h; cases h) hlk (fun fs hr => retR X57 hx hret rfl rfl (hb hby d36_38) hr) ?_ (by decide) (by decide)
  show Q36 Z ar ka y0 y1 y2 h0 n0 _ T57.heap _
  exact ⟨b49, b11, k11, rfl, N57, K60, sz51, (by first | assumption | decide | omega), q58, q59, c63⟩
theorem d23_59 : decode zc4 59 = .ok (.aload_n 0, 1) := by decide +kernel
theorem d23_60 : decode zc4 60 = .ok (.invokestatic 109, 3) := by decide +kernel
theorem tw252 : (Cond.methodLink sq3 109 ⟨sq14, "listFromArray", sq29⟩) ∈ tables_1 := mAt 252 rfl
theorem tw254 : (Cond.code ⟨sq14, "listFromArray", sq29⟩ jdk_56_method_4_code 3 (Option.some (FieldType.object sq3))) ∈ tables_1 := mAt 254 rfl
theorem tw253 : (Cond.static ⟨sq14, "listFromArray", sq29⟩) ∈ tables_1 := mAt 253 rfl
theorem d23_63 : decode zc4 63 = .ok (.areturn, 1) := by decide +kernel
def Q23_3 (Z : State) (ar : Addr) (ka : ClassId) (y0 : Addr) (y1 : Addr) (y2 : Addr) (h0 : Heap) (n0 : Nat) (v : Option Value) (h : Heap) (L : List Loc) : Prop := ∃ (r : Addr) (re : Addr) (kr : ClassId), v = some (.ref r) ∧ Fr n0 L ∧ Keep h0 h [] ∧ h0.size ≤ r ∧ h0.size ≤ re ∧ Exa Z h r sq7 ∧ Fld Z h r sq7 "elements" sq2 (.ref re) ∧ Arv Z h re kr (.object sq1) (3 : Int32) [(.ref y0), (.ref y1), (.ref y2)] .null
theorem rm23_3 (l : Launch) (Z : State) (a0 : Array Value) (hw : ∀ d ∈ tables_1, d.before a0 Z = true) (ws : List Jvm.Cond) (ar : Addr) (ka : ClassId) (y0 : Addr) (y1 : Addr) (y2 : Addr) (h0 : Heap) (n0 : Nat) (O0 : Old Z n0 h0) (V_a : Arv Z h0 ar ka (.object sq1) (3 : Int32) [(.ref y0), (.ref y1), (.ref y2)] .null) (I_y0 : Ins Z h0 y0 sq1 true) (I_y1 : Ins Z h0 y1 sq1 true) (I_y2 : Ins Z h0 y2 sq1 true) :
    Met l Z ws mm14 jdk_40_method_47_code 2 (some (.object sq3)) (Rm 6 2 5 77) #[(.ref ar)] h0 (Q23_3 Z ar ka y0 y1 y2 h0 n0) := by
  refine Met.enter (L0 := #[SR ar, .unset]) (plainFor_of_name pn206) (fun m => ef18_0 m ar) ?_
  intro p e s m below meth c s₁ hx hby hml hown hnm hret hlk hZ X0 e0
  have N0 := Fr.nil n0
  have Z0 := own_z0 O0
  have K0 : Keep h0 h0 [] := Keep.refl h0 _
  obtain ⟨cl10, Ar10, -, S10, M10, -, -⟩ := id V_a
  refine Go.st (t' := s₁.setTop (mkF m 60 #[SR ar, .unset] [(.ref ar)])) (fun target kt => ?_) ?_
  · refine XS.aloadN X0.here hx rfl (hb hby d23_0) rfl rfl ?_
    refine X0.arraylength hx (by rw [e0]; exact Ar10.1) (State.isArrayOf_alike hZ.alike Ar10.2.1) (g := (mkF m 1 #[SR ar, .unset] [(.ref ar)])) rfl rfl (hb hby d23_1) _ ?_
    rw [len_of S10 M10]
    refine XS.tswOut X0.here hx rfl (pc0 := 2) (pc' := 59) rfl (hb hby d23_2) rfl (by decide) (by decide) (by decide) ?_
    refine XS.aloadN X0.here hx rfl (hb hby d23_59) rfl rfl ?_
    exact kt
  refine Go.cps (own_cs (W := 0) (argsL := [(.ref ar)]) (rest := []) X0 hx hZ hown (hw _ tw252) (hw _ tw253) (hw _ tw254) (hw _ tw131) (by decide) e0 (rm36 l Z a0 hw [] ar ka y0 y1 y2 h0 n0 O0  V_a I_y0 I_y1 I_y2) rfl (by rw [hml]; rfl) (lenOf pd15 rfl) rfl (Nat.le_of_eq rfl) (hb hby d23_60) rfl (by decide)) ?_
  rintro T11 _ L11 X11 ⟨b12, b13, k14, rfl, Nq11, Kq11, q15, q16, q17, q18, q19⟩
  have N11 := Fr.app N0 Nq11
  have sz20 : h0.size ≤ b12 := Nat.le_trans K0.1 q15
  have g21 : n0 ≤ b12 := Nat.le_trans Z0 sz20
  have sz22 : h0.size ≤ b13 := Nat.le_trans K0.1 q16
  have g23 : n0 ≤ b13 := Nat.le_trans Z0 sz22
  have K24 := K0.trans Kq11 all0
  have O25 := O0.keep Kq11 all0
  refine Go.ret X11 (v := some (.ref b12)) (fun h => by rw [hret] at h; cases h) hlk (fun fs hr => retR X11 hx hret rfl rfl (hb hby d23_63) hr) ?_ (by decide) (by decide)
  show Q23_3 Z ar ka y0 y1 y2 h0 n0 _ T11.heap _
  exact ⟨b12, b13, k14, rfl, N11, K24, sz20, (by first | assumption | decide | omega), q17, q18, q19⟩
def Q18_3 (Z : State) (a0_ : Addr) (wm : Addr) (ed : Addr) (ke : ClassId) (y0 : Addr) (y1 : Addr) (y2 : Addr) (h0 : Heap) (n0 : Nat) (v : Option Value) (h : Heap) (L : List Loc) : Prop := ∃ (r : Addr) (re : Addr) (kr : ClassId), v = some (.ref r) ∧ Fr n0 L ∧ Keep h0 h [] ∧ h0.size ≤ r ∧ h0.size ≤ re ∧ Exa Z h r sq7 ∧ Fld Z h r sq7 "elements" sq2 (.ref re) ∧ Arv Z h re kr (.object sq1) (3 : Int32) [(.ref y0), (.ref y1), (.ref y2)] .null
theorem rm18_3 (l : Launch) (Z : State) (a0 : Array Value) (hw : ∀ d ∈ tables_1, d.before a0 Z = true) (ws : List Jvm.Cond) (a0_ : Addr) (wm : Addr) (ed : Addr) (ke : ClassId) (y0 : Addr) (y1 : Addr) (y2 : Addr) (h0 : Heap) (n0 : Nat) (O0 : Old Z n0 h0) (M_AO : MirM Z sq2 wm) (E0 : Exa Z h0 a0_ sq0) (F_d : Fld Z h0 a0_ sq0 sq10 sq2 (.ref ed)) (F_s : Fld Z h0 a0_ sq0 "size" "I" (.int 3)) (E_d : Exa Z h0 ed sq2) (V_d : Arv Z h0 ed ke (.object sq1) (10 : Int32) [(.ref y0), (.ref y1), (.ref y2), .null] .null) (I_y0 : Ins Z h0 y0 sq1 true) (I_y1 : Ins Z h0 y1 sq1 true) (I_y2 : Ins Z h0 y2 sq1 true) :
    Met l Z ws mm4 jdk_56_method_3_code 2 (some (.object sq3)) (Rm 7 3 8 90) #[(.ref a0_)] h0 (Q18_3 Z a0_ wm ed ke y0 y1 y2 h0 n0) := by
  refine Met.enter (L0 := #[SR a0_, .unset]) (plainFor_of_name pn221) (fun m => ef18_0 m a0_) ?_
  intro p e s m below meth c s₁ hx hby hml hown hnm hret hlk hZ X0 e0
  have N0 := Fr.nil n0
  have Z0 := own_z0 O0
  have K0 : Keep h0 h0 [] := Keep.refl h0 _
  refine Go.st (t' := s₁.setTop (mkF m 1 #[SR a0_, .unset] [(.ref a0_)])) (fun target kt => ?_) ?_
  · refine XS.aloadN X0.here hx rfl (hb hby d18_0) rfl rfl ?_
    exact kt
  obtain ⟨T10, X10, e10, st10⟩ := instNo X0 hx hZ hown (hw _ tw133) e0 E0 (own_nsno (hw _ tw134) (hw _ tw178) (NS.step (hw _ tw134) (NS.step (hw _ tw135) (NS.step (hw _ tw136) (own_nsroot (hw _ tw137) (hw _ tw178) (by decide)) (by decide)) (by decide)) (by decide)) (by decide)) (g := (mkF m 1 #[SR a0_, .unset] [(.ref a0_)])) rfl rfl (hb hby d18_1)
  refine Go.st st10 ?_
  refine Go.st (t' := T10.setTop (mkF m 8 #[SR a0_, .unset] [(.ref a0_)])) (fun target kt => ?_) ?_
  · refine XS.ifNo X10.here hx rfl (hb hby d18_4) rfl ((if0 _ _).trans (teq (by decide : (0 : Int32) = (0 : Int32))).2) ?_
    refine XS.aloadN X10.here hx rfl (hb hby d18_7) rfl rfl ?_
    exact kt
  obtain ⟨T11, X11, e11, st11⟩ := instNo X10 hx hZ hown (hw _ tw138) e10 E0 (own_nsno (hw _ tw134) (hw _ tw257) (NS.step (hw _ tw134) (NS.step (hw _ tw135) (NS.step (hw _ tw136) (own_nsroot (hw _ tw137) (hw _ tw257) (by decide)) (by decide)) (by decide)) (by decide)) (by decide)) (g := (mkF m 8 #[SR a0_, .unset] [(.ref a0_)])) rfl rfl (hb hby d18_8)
  refine Go.st st11 ?_
  refine Go.st (t' := T11.setTop (mkF m 32 #[SR a0_, .unset] [(.ref a0_)])) (fun target kt => ?_) ?_
  · refine XS.ifYes X11.here hx rfl (pc0 := 11) (pc' := 31) rfl (hb hby d18_11) rfl ((if0 _ _).trans (teq (by decide : (0 : Int32) = (0 : Int32))).1) (by decide) (by decide) ?_
    refine XS.aloadN X11.here hx rfl (hb hby d18_31) rfl rfl ?_
    exact kt
  refine Go.cps (own_cf (W := 0) (b := a0_) (argsL := []) (rest := []) X11 hx hZ hown (hw _ tw139) (hw _ tw140) (hw _ tw141) (hw _ tw142) (hw _ tw112) (hw _ tw113) (hw _ tw114) (hw _ tw143) (hw _ tw116) (hw _ tw47) (by decide) e11 E0 (rm15_0 l Z a0 hw [] a0_ (3 : Int32) h0 n0 O0  F_s (by decide : ¬ ((3 : Int32) = (0 : Int32)))) rfl (by rw [hml]; rfl) (lenOf pd9 rfl) rfl (Nat.le_of_eq rfl) (hb hby d18_32) rfl (by decide)) ?_
  rintro T12 _ L12 X12 ⟨rfl, Nq12, eq12⟩
  have N12 := Fr.app N0 Nq12
  refine Go.st (t' := T12.setTop (mkF m 45 #[SR a0_, .unset] [(.ref a0_)])) (fun target kt => ?_) ?_
  · refine XS.ifYes X12.here hx rfl (pc0 := 37) (pc' := 44) rfl (hb hby d18_37) rfl ((if0 _ _).trans (teq (by decide : (0 : Int32) = (0 : Int32))).1) (by decide) (by decide) ?_
    refine XS.aloadN X12.here hx rfl (hb hby d18_44) rfl rfl ?_
    exact kt
  refine Go.cps (own_cf (W := 0) (b := a0_) (argsL := []) (rest := []) X12 hx hZ hown (hw _ tw144) (hw _ tw145) (hw _ tw146) (hw _ tw147) (hw _ tw148) (hw _ tw149) (hw _ tw150) (hw _ tw143) (hw _ tw151) (hw _ tw47) (by decide) eq12 E0 (rm19_3 l Z a0 hw [] a0_ wm ed ke y0 y1 y2 h0 n0 O0 M_AO E0 F_d F_s E_d V_d I_y0 I_y1 I_y2) rfl (by rw [hml]; rfl) (lenOf pd4 rfl) rfl (Nat.le_of_eq rfl) (hb hby d18_45) rfl (by decide)) ?_
  rintro T13 _ L13 X13 ⟨b14, k15, rfl, Nq13, Kq13, q16, q17, q18, q19⟩
  have N13 := Fr.app N12 Nq13
  have sz20 : h0.size ≤ b14 := Nat.le_trans K0.1 q16
  have g21 : n0 ≤ b14 := Nat.le_trans Z0 sz20
  have K22 := K0.trans Kq13 all0
  have O23 := O0.keep Kq13 all0
  have c24 := I_y0.keep K22
  have c25 := I_y1.keep K22
  have c26 := I_y2.keep K22
  refine Go.cps (own_cs (W := 0) (argsL := [(.ref b14)]) (rest := []) X13 hx hZ hown (hw _ tw174) (hw _ tw175) (hw _ tw176) (hw _ tw127) (by decide) rfl (rm23_3 l Z a0 hw [] b14 k15 y0 y1 y2 T13.heap n0 O23  q19 c24 c25 c26) rfl (by rw [hml]; rfl) (lenOf pd15 rfl) rfl (Nat.le_of_eq rfl) (hb hby d18_50) rfl (by decide)) ?_
  rintro T27 _ L27 X27 ⟨b28, b29, k30, rfl, Nq27, Kq27, q31, q32, q33, q34, q35⟩
  have N27 := Fr.app N13 Nq27
  have sz36 : h0.size ≤ b28 := Nat.le_trans K22.1 q31
  have g37 : n0 ≤ b28 := Nat.le_trans Z0 sz36
  have sz38 : h0.size ≤ b29 := Nat.le_trans K22.1 q32
  have g39 : n0 ≤ b29 := Nat.le_trans Z0 sz38
  have K40 := K22.trans Kq27 all0
  have O41 := O23.keep Kq27 all0
  refine Go.ret X27 (v := some (.ref b28)) (fun h => by rw [hret] at h; cases h) hlk (fun fs hr => retR X27 hx hret rfl rfl (hb hby d18_53) hr) ?_ (by decide) (by decide)
  show Q18_3 Z a0_ wm ed ke y0 y1 y2 h0 n0 _ T27.heap _
  exact ⟨b28, b29, k30, rfl, N27, K40, sz36, (by first | assumption | decide | omega), q33, q34, q35⟩
def Q17_3 (Z : State) (a0_ : Addr) (wm : Addr) (ed : Addr) (ke : ClassId) (y0 : Addr) (y1 : Addr) (y2 : Addr) (h0 : Heap) (n0 : Nat) (v : Option Value) (h : Heap) (L : List Loc) : Prop := ∃ (r : Addr) (re : Addr) (kr : ClassId), v = some (.ref r) ∧ Fr n0 L ∧ Keep h0 h [] ∧ h0.size ≤ r ∧ h0.size ≤ re ∧ Exa Z h r sq7 ∧ Fld Z h r sq7 "elements" sq2 (.ref re) ∧ Arv Z h re kr (.object sq1) (3 : Int32) [(.ref y0), (.ref y1), (.ref y2)] .null
theorem rm17_3 (l : Launch) (Z : State) (a0 : Array Value) (hw : ∀ d ∈ tables_1, d.before a0 Z = true) (ws : List Jvm.Cond) (a0_ : Addr) (wm : Addr) (ed : Addr) (ke : ClassId) (y0 : Addr) (y1 : Addr) (y2 : Addr) (h0 : Heap) (n0 : Nat) (O0 : Old Z n0 h0) (M_AO : MirM Z sq2 wm) (E0 : Exa Z h0 a0_ sq0) (F_d : Fld Z h0 a0_ sq0 sq10 sq2 (.ref ed)) (F_s : Fld Z h0 a0_ sq0 "size" "I" (.int 3)) (E_d : Exa Z h0 ed sq2) (V_d : Arv Z h0 ed ke (.object sq1) (10 : Int32) [(.ref y0), (.ref y1), (.ref y2), .null] .null) (I_y0 : Ins Z h0 y0 sq1 true) (I_y1 : Ins Z h0 y1 sq1 true) (I_y2 : Ins Z h0 y2 sq1 true) :
    Met l Z ws mm5 jdk_40_method_48_code 1 (some (.object sq3)) (Rm 8 3 8 103) #[(.ref a0_)] h0 (Q17_3 Z a0_ wm ed ke y0 y1 y2 h0 n0) := by
  refine Met.enter (L0 := #[SR a0_]) (plainFor_of_name pn206) (fun m => ef3 m a0_) ?_
  intro p e s m below meth c s₁ hx hby hml hown hnm hret hlk hZ X0 e0
  have N0 := Fr.nil n0
  have Z0 := own_z0 O0
  have K0 : Keep h0 h0 [] := Keep.refl h0 _
  refine Go.st (t' := s₁.setTop (mkF m 1 #[SR a0_] [(.ref a0_)])) (fun target kt => ?_) ?_
  · refine XS.aloadN X0.here hx rfl (hb hby d17_0) rfl rfl ?_
    exact kt
  refine Go.cps (own_cs (W := 0) (argsL := [(.ref a0_)]) (rest := []) X0 hx hZ hown (hw _ tw129) (hw _ tw130) (hw _ tw132) (hw _ tw131) (by decide) e0 (rm18_3 l Z a0 hw [] a0_ wm ed ke y0 y1 y2 h0 n0 O0 M_AO E0 F_d F_s E_d V_d I_y0 I_y1 I_y2) rfl (by rw [hml]; rfl) (lenOf pd11 rfl) rfl (Nat.le_of_eq rfl) (hb hby d17_1) rfl (by decide)) ?_
  rintro T10 _ L10 X10 ⟨b11, b12, k13, rfl, Nq10, Kq10, q14, q15, q16, q17, q18⟩
  have N10 := Fr.app N0 Nq10
  have sz19 : h0.size ≤ b11 := Nat.le_trans K0.1 q14
  have g20 : n0 ≤ b11 := Nat.le_trans Z0 sz19
  have sz21 : h0.size ≤ b12 := Nat.le_trans K0.1 q15
  have g22 : n0 ≤ b12 := Nat.le_trans Z0 sz21
  have K23 := K0.trans Kq10 all0
  have O24 := O0.keep Kq10 all0
  refine Go.ret X10 (v := some (.ref b11)) (fun h => by rw [hret] at h; cases h) hlk (fun fs hr => retR X10 hx hret rfl rfl (hb hby d17_4) hr) ?_ (by decide) (by decide)
  show Q17_3 Z a0_ wm ed ke y0 y1 y2 h0 n0 _ T10.heap _
  exact ⟨b11, b12, k13, rfl, N10, K23, sz19, (by first | assumption | decide | omega), q16, q17, q18⟩
theorem d14_0 : decode zc1 0 = .ok (.aload_n 0, 1) := by decide +kernel
theorem d14_1 : decode zc1 1 = .ok (.invokespecial 1, 3) := by decide +kernel
theorem tw107 : (Cond.methodLink sq4 1 ⟨sq1, "<init>", "()V"⟩) ∈ tables_1 := mAt 107 rfl
theorem d14_4 : decode zc1 4 = .ok (.aload_n 1, 1) := by decide +kernel
theorem d14_5 : decode zc1 5 = .ok (.invokeinterface 7 1, 5) := by decide +kernel
theorem tw108 : (Cond.methodLink sq4 7 ⟨sq3, "isEmpty", "()Z"⟩) ∈ tables_1 := mAt 108 rfl
theorem tw111 : (Cond.selects sq0 ⟨sq3, "isEmpty", "()Z"⟩ ⟨sq0, "isEmpty", "()Z"⟩) ∈ tables_1 := mAt 111 rfl
theorem tw109 : (Cond.declares ⟨sq3, "isEmpty", "()Z"⟩) ∈ tables_1 := mAt 109 rfl
theorem tw110 : (Cond.interfaceMethod sq3 sq3 "isEmpty" "()Z") ∈ tables_1 := mAt 110 rfl
theorem tw115 : (Cond.castable sq0 sq3) ∈ tables_1 := mAt 115 rfl
theorem d14_10 : decode zc1 10 = .ok (.ifCond .ne 20, 3) := by decide +kernel
theorem d14_13 : decode zc1 13 = .ok (.aload_n 2, 1) := by decide +kernel
theorem d14_14 : decode zc1 14 = .ok (.invokeinterface 13 1, 5) := by decide +kernel
theorem tw117 : (Cond.methodLink sq4 13 ⟨sq3, "size", "()I"⟩) ∈ tables_1 := mAt 117 rfl
theorem tw124 : (Cond.code ⟨sq0, "size", "()I"⟩ jdk_38_method_8_code 1 (Option.some FieldType.int)) ∈ tables_1 := mAt 124 rfl
theorem pd18 : parseMethodDescriptor "()I" = some ⟨[], some .int⟩ := by decide +kernel
theorem tw120 : (Cond.selects sq0 ⟨sq3, "size", "()I"⟩ ⟨sq0, "size", "()I"⟩) ∈ tables_1 := mAt 120 rfl
theorem tw118 : (Cond.declares ⟨sq3, "size", "()I"⟩) ∈ tables_1 := mAt 118 rfl
theorem tw119 : (Cond.interfaceMethod sq3 sq3 "size" "()I") ∈ tables_1 := mAt 119 rfl
theorem tw121 : (Cond.instanceMethod ⟨sq0, "size", "()I"⟩) ∈ tables_1 := mAt 121 rfl
theorem tw122 : (Cond.publicMethod ⟨sq0, "size", "()I"⟩) ∈ tables_1 := mAt 122 rfl
theorem tw123 : (Cond.unhidden sq0 "size" "()I") ∈ tables_1 := mAt 123 rfl
theorem d14_19 : decode zc1 19 = .ok (.aload_n 1, 1) := by decide +kernel
theorem d14_20 : decode zc1 20 = .ok (.invokeinterface 13 1, 5) := by decide +kernel
theorem d14_25 : decode zc1 25 = .ok (.iconst 1, 1) := by decide +kernel
theorem d14_26 : decode zc1 26 = .ok (.isub, 1) := by decide +kernel
theorem d14_27 : decode zc1 27 = .ok (.if_icmp .eq 28, 3) := by decide +kernel
theorem d14_55 : decode zc1 55 = .ok (.iconst 0, 1) := by decide +kernel
theorem d14_56 : decode zc1 56 = .ok (.istore_n 3, 1) := by decide +kernel
theorem d14_57 : decode zc1 57 = .ok (.iload_n 3, 1) := by decide +kernel
theorem d14_58 : decode zc1 58 = .ok (.aload_n 2, 1) := by decide +kernel
theorem d14_59 : decode zc1 59 = .ok (.invokeinterface 13 1, 5) := by decide +kernel
theorem d14_64 : decode zc1 64 = .ok (.if_icmp .ge 53, 3) := by decide +kernel
theorem d14_117 : decode zc1 117 = .ok (.aload_n 0, 1) := by decide +kernel
theorem d14_118 : decode zc1 118 = .ok (.aload_n 1, 1) := by decide +kernel
theorem d14_119 : decode zc1 119 = .ok (.invokestatic 41, 3) := by decide +kernel
theorem tw125 : (Cond.methodLink sq4 41 ⟨sq3, "copyOf", sq27⟩) ∈ tables_1 := mAt 125 rfl
theorem tw99 : (Cond.castable sq8 sq1) ∈ tables_1 := mAt 99 rfl
theorem tw128 : (Cond.code ⟨sq3, "copyOf", sq27⟩ jdk_40_method_48_code 1 (Option.some (FieldType.object sq3))) ∈ tables_1 := mAt 128 rfl
theorem tw126 : (Cond.static ⟨sq3, "copyOf", sq27⟩) ∈ tables_1 := mAt 126 rfl
theorem d14_122 : decode zc1 122 = .ok (.putfield 45, 3) := by decide +kernel
theorem tw207 : (Cond.fieldLink sq4 45 sq4 "activities" sq11) ∈ tables_1 := mAt 207 rfl
theorem tw208 : (Cond.laysFinal sq4 sq4 "activities" sq11) ∈ tables_1 := mAt 208 rfl
theorem tw102 : (Cond.instantiable sq4 3) ∈ tables_1 := mAt 102 rfl
theorem d14_125 : decode zc1 125 = .ok (.aload_n 0, 1) := by decide +kernel
theorem d14_126 : decode zc1 126 = .ok (.aload_n 2, 1) := by decide +kernel
theorem d14_127 : decode zc1 127 = .ok (.invokestatic 41, 3) := by decide +kernel
theorem d14_130 : decode zc1 130 = .ok (.putfield 51, 3) := by decide +kernel
theorem tw213 : (Cond.fieldLink sq4 51 sq4 "legs" sq11) ∈ tables_1 := mAt 213 rfl
theorem tw214 : (Cond.laysFinal sq4 sq4 "legs" sq11) ∈ tables_1 := mAt 214 rfl
theorem d14_133 : decode zc1 133 = .ok (.aload_n 0, 1) := by decide +kernel
theorem d14_134 : decode zc1 134 = .ok (.invokestatic 54, 3) := by decide +kernel
theorem tw215 : (Cond.methodLink sq4 54 ⟨sq15, "empty", sq48⟩) ∈ tables_1 := mAt 215 rfl
theorem tw218 : (Cond.code ⟨sq15, "empty", sq48⟩ jdk_2648_method_2_code 0 (Option.some (FieldType.object sq15))) ∈ tables_1 := mAt 218 rfl
theorem tw217 : (Cond.initialized sq15) ∈ tables_1 := mAt 217 rfl
theorem pd19 : parseMethodDescriptor "()Ljava/util/OptionalDouble;" = some ⟨[], some (.object "java/util/OptionalDouble")⟩ := by decide +kernel
theorem tw216 : (Cond.static ⟨sq15, "empty", sq48⟩) ∈ tables_1 := mAt 216 rfl
theorem d14_137 : decode zc1 137 = .ok (.putfield 60, 3) := by decide +kernel
theorem tw220 : (Cond.fieldLink sq4 60 sq4 "score" sq22) ∈ tables_1 := mAt 220 rfl
theorem tw221 : (Cond.laysFinal sq4 sq4 "score" sq22) ∈ tables_1 := mAt 221 rfl
theorem d14_140 : decode zc1 140 = .ok (.return_, 1) := by decide +kernel
theorem ef14_0 (m : MethodId) (x0 : Addr) (x1 : Addr) (x2 : Addr) : entryFrame m #[(.ref x0), (.ref x1), (.ref x2)] 5 = mkF m 0 #[SR x0, SR x1, SR x2, .unset, .unset] [] := by first | (simp [entryFrame, mkF, argsToLocals, Value.category]; done) | rfl
def Q14_0 (Z : State) (a0_ : Addr) (a1_ : Addr) (a2_ : Addr) (wm : Addr) (we : Addr) (wl : Addr) (wo : Addr) (eda : Addr) (ka : ClassId) (ya0 : Addr) (wd : Addr) (kd : ClassId) (h0 : Heap) (n0 : Nat) (v : Option Value) (h : Heap) (L : List Loc) : Prop := v = none ∧ Fr n0 L ∧ Keep h0 h [a0_] ∧ Exa Z h a0_ sq4 ∧ Fld Z h a0_ sq4 "legs" sq11 (.ref wl)
theorem pn343 : plainName "com/example/count_calibrated_demand/countcalibrateddemand/Plan" = true := by first | (simp [plainName, overriddenIn]; done) | decide +kernel
theorem rm14_0 (l : Launch) (Z : State) (a0 : Array Value) (hw : ∀ d ∈ tables_1, d.before a0 Z = true) (ws : List Jvm.Cond) (a0_ : Addr) (a1_ : Addr) (a2_ : Addr) (wm : Addr) (we : Addr) (wl : Addr) (wo : Addr) (eda : Addr) (ka : ClassId) (ya0 : Addr) (wd : Addr) (kd : ClassId) (h0 : Heap) (n0 : Nat) (O0 : Old Z n0 h0) (M_AO : MirM Z sq2 wm) (S_EM : Sta Z Z.heap sq14 "EMPTY" sq12 (.ref we)) (S_EL : Sta Z Z.heap sq14 "EMPTY_LIST" sq36 (.ref wl)) (S_OD : Sta Z Z.heap sq15 "EMPTY" sq22 (.ref wo)) (S_DE : Sta Z Z.heap sq0 sq30 sq2 (.ref wd)) (E_wd : Exa Z Z.heap wd sq2) (V_wd : Arv Z Z.heap wd kd (.object sq1) (0 : Int32) [] .null) (E0 : Exa Z h0 a0_ sq4) (g0 : n0 ≤ a0_) (F_activities : Fld Z h0 a0_ sq4 "activities" sq11 .null) (F_legs : Fld Z h0 a0_ sq4 "legs" sq11 .null) (F_score : Fld Z h0 a0_ sq4 "score" sq22 .null) (E_a : Exa Z h0 a1_ sq0) (Fd_a : Fld Z h0 a1_ sq0 sq10 sq2 (.ref eda)) (Fs_a : Fld Z h0 a1_ sq0 "size" "I" (.int 1)) (Ed_a : Exa Z h0 eda sq2) (Vd_a : Arv Z h0 eda ka (.object sq1) (10 : Int32) [(.ref ya0), .null, .null, .null] .null) (E_l : Exa Z h0 a2_ sq0) (Fd_l : Fld Z h0 a2_ sq0 sq10 sq2 (.ref wd)) (Fs_l : Fld Z h0 a2_ sq0 "size" "I" (.int 0)) (E_ya0 : Exa Z h0 ya0 sq8) (ne_a1_ : a1_ ≠ a0_) (ne_a2_ : a2_ ≠ a0_) (ne_eda : eda ≠ a0_) :
    Met l Z ws mm15 prog_46_method_1_code 5 none (Rm 8 2 3 101) #[(.ref a0_), (.ref a1_), (.ref a2_)] h0 (Q14_0 Z a0_ a1_ a2_ wm we wl wo eda ka ya0 wd kd h0 n0) := by
  refine Met.enter (L0 := #[SR a0_, SR a1_, SR a2_, .unset, .unset]) (plainFor_of_name pn343) (fun m => ef14_0 m a0_ a1_ a2_) ?_
  intro p e s m below meth c s₁ hx hby hml hown hnm hret hlk hZ X0 e0
  have N0 := Fr.nil n0
  have Z0 := own_z0 O0
  have K0 : Keep h0 h0 [a0_] := Keep.refl h0 _
  refine Go.st (t' := s₁.setTop (mkF m 1 #[SR a0_, SR a1_, SR a2_, .unset, .unset] [(.ref a0_)])) (fun target kt => ?_) ?_
  · refine XS.aloadN X0.here hx rfl (hb hby d14_0) rfl rfl ?_
    exact kt
  obtain ⟨T10, X10, e10, st10⟩ := initO X0 hx hZ hown (hw _ tw107) (hw _ tw24) (hw _ tw25) e0 (g := (mkF m 1 #[SR a0_, SR a1_, SR a2_, .unset, .unset] [(.ref a0_)])) rfl (by rw [hml]; rfl) rfl (hb hby d14_1) (by decide) (W := 0) (by show 2 * 0 + _ ≤ _; exact Nat.le_of_eq rfl) (by decide)
  refine Go.st st10 ?_
  refine Go.st (t' := T10.setTop (mkF m 5 #[SR a0_, SR a1_, SR a2_, .unset, .unset] [(.ref a1_)])) (fun target kt => ?_) ?_
  · refine XS.aloadN X10.here hx rfl (hb hby d14_4) rfl rfl ?_
    exact kt
  refine Go.cps (own_cf (W := 0) (b := a1_) (argsL := []) (rest := []) X10 hx hZ hown (hw _ tw108) (hw _ tw109) (hw _ tw110) (hw _ tw111) (hw _ tw112) (hw _ tw113) (hw _ tw114) (hw _ tw115) (hw _ tw116) (hw _ tw47) (by decide) e10 E_a (rm15_0 l Z a0 hw [] a1_ (1 : Int32) h0 n0 O0  Fs_a (by decide : ¬ ((1 : Int32) = (0 : Int32)))) rfl (by rw [hml]; rfl) (lenOf pd9 rfl) rfl (Nat.le_of_eq rfl) (hb hby d14_5) rfl (by decide)) ?_
  rintro T11 _ L11 X11 ⟨rfl, Nq11, eq11⟩
  have N11 := Fr.app N0 Nq11
  refine Go.st (t' := T11.setTop (mkF m 14 #[SR a0_, SR a1_, SR a2_, .unset, .unset] [(.ref a2_)])) (fun target kt => ?_) ?_
  · refine XS.ifNo X11.here hx rfl (hb hby d14_10) rfl ((if0 _ _).trans (teq (by decide : (0 : Int32) = (0 : Int32))).2) ?_
    refine XS.aloadN X11.here hx rfl (hb hby d14_13) rfl rfl ?_
    exact kt
  refine Go.cps (own_cf (W := 0) (b := a2_) (argsL := []) (rest := []) X11 hx hZ hown (hw _ tw117) (hw _ tw118) (hw _ tw119) (hw _ tw120) (hw _ tw121) (hw _ tw122) (hw _ tw123) (hw _ tw115) (hw _ tw124) (hw _ tw47) (by decide) eq11 E_l (rm16 l Z a0 hw [] a2_ (0 : Int32) h0 n0 O0  Fs_l) rfl (by rw [hml]; rfl) (lenOf pd18 rfl) rfl (Nat.le_of_eq rfl) (hb hby d14_14) rfl (by decide)) ?_
  rintro T12 _ L12 X12 ⟨rfl, Nq12, eq12⟩
  have N12 := Fr.app N11 Nq12
  refine Go.st (t' := T12.setTop (mkF m 20 #[SR a0_, SR a1_, SR a2_, .unset, .unset] [(.ref a1_), (.int 0)])) (fun target kt => ?_) ?_
  · refine XS.aloadN X12.here hx rfl (hb hby d14_19) rfl rfl ?_
    exact kt
  refine Go.cps (own_cf (W := 1) (b := a1_) (argsL := []) (rest := [(.int 0)]) X12 hx hZ hown (hw _ tw117) (hw _ tw118) (hw _ tw119) (hw _ tw120) (hw _ tw121) (hw _ tw122) (hw _ tw123) (hw _ tw115) (hw _ tw124) (hw _ tw47) (by decide) eq12 E_a (rm16 l Z a0 hw [] a1_ (1 : Int32) h0 n0 O0  Fs_a) rfl (by rw [hml]; rfl) (lenOf pd18 rfl) rfl (Nat.le_of_eq rfl) (hb hby d14_20) rfl (by decide)) ?_
  rintro T13 _ L13 X13 ⟨rfl, Nq13, eq13⟩
  have N13 := Fr.app N12 Nq13
  refine Go.st (t' := T13.setTop (mkF m 59 #[SR a0_, SR a1_, SR a2_, SI 0, .unset] [(.ref a2_), (.int 0)])) (fun target kt => ?_) ?_
  · refine XS.iconst X13.here hx rfl (hb hby d14_25) ?_
    refine XS.isub X13.here hx rfl (hb hby d14_26) rfl ?_
    refine XS.icmpYes X13.here hx rfl (pc0 := 27) (pc' := 55) rfl (hb hby d14_27) rfl (teq (by decide : (0 : Int32) = (0 : Int32))).1 (by decide) (by decide) ?_
    refine XS.iconst X13.here hx rfl (hb hby d14_55) ?_
    refine XS.istoreN X13.here hx rfl (hb hby d14_56) rfl (l' := #[SR a0_, SR a1_, SR a2_, SI 0, .unset]) rfl ?_
    refine XS.iloadN X13.here hx rfl (hb hby d14_57) rfl ?_
    refine XS.aloadN X13.here hx rfl (hb hby d14_58) rfl rfl ?_
    exact kt
  refine Go.cps (own_cf (W := 1) (b := a2_) (argsL := []) (rest := [(.int 0)]) X13 hx hZ hown (hw _ tw117) (hw _ tw118) (hw _ tw119) (hw _ tw120) (hw _ tw121) (hw _ tw122) (hw _ tw123) (hw _ tw115) (hw _ tw124) (hw _ tw47) (by decide) eq13 E_l (rm16 l Z a0 hw [] a2_ (0 : Int32) h0 n0 O0  Fs_l) rfl (by rw [hml]; rfl) (lenOf pd18 rfl) rfl (Nat.le_of_eq rfl) (hb hby d14_59) rfl (by decide)) ?_
  rintro T14 _ L14 X14 ⟨rfl, Nq14, eq14⟩
  have N14 := Fr.app N13 Nq14
  refine Go.st (t' := T14.setTop (mkF m 119 #[SR a0_, SR a1_, SR a2_, SI 0, .unset] [(.ref a1_), (.ref a0_)])) (fun target kt => ?_) ?_
  · refine XS.icmpYes X14.here hx rfl (pc0 := 64) (pc' := 117) rfl (hb hby d14_64) rfl (flt (by decide : ¬ ((0 : Int32) < (0 : Int32)))).2.1 (by decide) (by decide) ?_
    refine XS.aloadN X14.here hx rfl (hb hby d14_117) rfl rfl ?_
    refine XS.aloadN X14.here hx rfl (hb hby d14_118) rfl rfl ?_
    exact kt
  refine Go.cps (own_cs (W := 1) (argsL := [(.ref a1_)]) (rest := [(.ref a0_)]) X14 hx hZ hown (hw _ tw125) (hw _ tw126) (hw _ tw128) (hw _ tw127) (by decide) eq14 (rm17_1 l Z a0 hw [] a1_ wm eda ka ya0 we h0 n0 O0 M_AO S_EM E_a Fd_a Fs_a Ed_a Vd_a (Ins.of_exa E_ya0 (hw _ tw99))) rfl (by rw [hml]; rfl) (lenOf pd11 rfl) rfl (Nat.le_of_eq rfl) (hb hby d14_119) rfl (by decide)) ?_
  rintro T15 _ L15 X15 ⟨b16, rfl, Nq15, Kq15, q17, q18, q19, q20⟩
  have N15 := Fr.app N14 Nq15
  have sz21 : h0.size ≤ b16 := Nat.le_trans K0.1 q17
  have g22 : n0 ≤ b16 := Nat.le_trans Z0 sz21
  have K23 := K0.trans Kq15 all0
  have O24 := O0.keep Kq15 all0
  have c25 := F_activities.keep Kq15 nin0
  have c26 := E0.keep K23
  obtain ⟨T27, h27, X27, e27, W27, st27⟩ := putF X15 hx hZ hown (host := "") (Or.inl (hw _ tw207)) Via.refl rfl c25 c26 (Or.inr ⟨(hw _ tw208), rfl, hnm⟩) (hw _ tw102) (ty := (.object sq3)) (by decide) rfl rfl (g := (mkF m 122 #[SR a0_, SR a1_, SR a2_, SI 0, .unset] [(.ref b16), (.ref a0_)])) rfl rfl (hb hby d14_122)
  have F28 : Fld Z h27 a0_ sq4 "activities" sq11 (.ref b16) := c25.same W27
  have K29 := K23.wr W27 (Or.inl mI0)
  have O30 := O24.wr W27 g0
  have N27 := Fr.snoc X27 N15 g0
  refine Go.st st27 ?_
  refine Go.st (t' := T27.setTop (mkF m 127 #[SR a0_, SR a1_, SR a2_, SI 0, .unset] [(.ref a2_), (.ref a0_)])) (fun target kt => ?_) ?_
  · refine XS.aloadN X27.here hx rfl (hb hby d14_125) rfl rfl ?_
    refine XS.aloadN X27.here hx rfl (hb hby d14_126) rfl rfl ?_
    exact kt
  have c31 := E_l.keep K29
  have c32 := Fs_l.keep K29 (ninS ne_a2_ nin0)
  refine Go.cps (own_cs (W := 1) (argsL := [(.ref a2_)]) (rest := [(.ref a0_)]) X27 hx hZ hown (hw _ tw125) (hw _ tw126) (hw _ tw128) (hw _ tw127) (by decide) e27 (rm17_0 l Z a0 hw [] a2_ wl h27 n0 O30 S_EL c31 c32) rfl (by rw [hml]; rfl) (lenOf pd11 rfl) rfl (Nat.le_of_eq rfl) (hb hby d14_127) rfl (by decide)) ?_
  rintro T33 _ L33 X33 ⟨rfl, Nq33, eq33⟩
  have N33 := Fr.app N27 Nq33
  have c34 := (F_legs.keep Kq15 nin0).other W27 (Or.inr (slot_ne (Or.inr (hw _ tw214)) (Or.inr (hw _ tw208)) (by decide) (t := (.object sq3)) (t' := (.object sq3)) (by decide) (by decide)))
  have c35 := c26.wr W27
  obtain ⟨T36, h36, X36, e36, W36, st36⟩ := putF X33 hx hZ hown (host := "") (Or.inl (hw _ tw213)) Via.refl eq33 c34 c35 (Or.inr ⟨(hw _ tw214), rfl, hnm⟩) (hw _ tw102) (ty := (.object sq3)) (by decide) rfl rfl (g := (mkF m 130 #[SR a0_, SR a1_, SR a2_, SI 0, .unset] [(.ref wl), (.ref a0_)])) rfl rfl (hb hby d14_130)
  have F37 : Fld Z h36 a0_ sq4 "legs" sq11 (.ref wl) := c34.same W36
  have K38 := K29.wr W36 (Or.inl mI0)
  have O39 := O30.wr W36 g0
  have N36 := Fr.snoc X36 N33 g0
  refine Go.st st36 ?_
  refine Go.st (t' := T36.setTop (mkF m 134 #[SR a0_, SR a1_, SR a2_, SI 0, .unset] [(.ref a0_)])) (fun target kt => ?_) ?_
  · refine XS.aloadN X36.here hx rfl (hb hby d14_133) rfl rfl ?_
    exact kt
  refine Go.cps (own_cs (W := 1) (argsL := []) (rest := [(.ref a0_)]) X36 hx hZ hown (hw _ tw215) (hw _ tw216) (hw _ tw218) (hw _ tw217) (by decide) e36 (rm29 l Z a0 hw [] wo h36 n0 O39 S_OD ) rfl (by rw [hml]; rfl) (lenOf pd19 rfl) rfl (Nat.le_of_eq rfl) (hb hby d14_134) rfl (by decide)) ?_
  rintro T40 _ L40 X40 ⟨rfl, Nq40, eq40⟩
  have N40 := Fr.app N36 Nq40
  have c41 := ((F_score.keep Kq15 nin0).other W27 (Or.inr (slot_ne (Or.inr (hw _ tw221)) (Or.inr (hw _ tw208)) (by decide) (t := (.object sq15)) (t' := (.object sq3)) (by decide) (by decide)))).other W36 (Or.inr (slot_ne (Or.inr (hw _ tw221)) (Or.inr (hw _ tw214)) (by decide) (t := (.object sq15)) (t' := (.object sq3)) (by decide) (by decide)))
  have c42 := c35.wr W36
  obtain ⟨T43, h43, X43, e43, W43, st43⟩ := putF X40 hx hZ hown (host := "") (Or.inl (hw _ tw220)) Via.refl eq40 c41 c42 (Or.inr ⟨(hw _ tw221), rfl, hnm⟩) (hw _ tw102) (ty := (.object sq15)) (by decide) rfl rfl (g := (mkF m 137 #[SR a0_, SR a1_, SR a2_, SI 0, .unset] [(.ref wo), (.ref a0_)])) rfl rfl (hb hby d14_137)
  have F44 : Fld Z h43 a0_ sq4 "score" sq22 (.ref wo) := c41.same W43
  have K45 := K38.wr W43 (Or.inl mI0)
  have O46 := O39.wr W43 g0
  have N43 := Fr.snoc X43 N40 g0
  refine Go.st st43 ?_
  have c47 := c42.wr W43
  have c48 := F37.other W43 (Or.inr (slot_ne (Or.inr (hw _ tw214)) (Or.inr (hw _ tw221)) (by decide) (t := (.object sq3)) (t' := (.object sq15)) (by decide) (by decide)))
  refine Go.ret X43 (v := none) (fun _ => rfl) hlk (fun fs hr => X43.returnOut hx hret (hb hby d14_140) hr) ?_ (by decide) (by decide)
  show Q14_0 Z a0_ a1_ a2_ wm we wl wo eda ka ya0 wd kd h0 n0 _ T43.heap _
  rw [e43]
  exact ⟨rfl, N43, K45, c47, c48⟩
theorem d14_67 : decode zc1 67 = .ok (.aload_n 1, 1) := by decide +kernel
theorem d14_68 : decode zc1 68 = .ok (.iload_n 3, 1) := by decide +kernel
theorem d14_69 : decode zc1 69 = .ok (.invokeinterface 26 2, 5) := by decide +kernel
theorem tw222 : (Cond.methodLink sq4 26 ⟨sq3, "get", sq16⟩) ∈ tables_1 := mAt 222 rfl
theorem tw229 : (Cond.code ⟨sq0, "get", sq16⟩ jdk_38_method_20_code 2 (Option.some (FieldType.object sq1))) ∈ tables_1 := mAt 229 rfl
theorem tw225 : (Cond.selects sq0 ⟨sq3, "get", sq16⟩ ⟨sq0, "get", sq16⟩) ∈ tables_1 := mAt 225 rfl
theorem tw223 : (Cond.declares ⟨sq3, "get", sq16⟩) ∈ tables_1 := mAt 223 rfl
theorem tw224 : (Cond.interfaceMethod sq3 sq3 "get" sq16) ∈ tables_1 := mAt 224 rfl
theorem tw226 : (Cond.instanceMethod ⟨sq0, "get", sq16⟩) ∈ tables_1 := mAt 226 rfl
theorem tw227 : (Cond.publicMethod ⟨sq0, "get", sq16⟩) ∈ tables_1 := mAt 227 rfl
theorem tw228 : (Cond.unhidden sq0 "get" sq16) ∈ tables_1 := mAt 228 rfl
theorem d14_74 : decode zc1 74 = .ok (.checkcast 30, 3) := by decide +kernel
theorem tw242 : (Cond.classLink sq4 30 sq8) ∈ tables_1 := mAt 242 rfl
theorem d14_77 : decode zc1 77 = .ok (.astore 4, 2) := by decide +kernel
theorem d14_79 : decode zc1 79 = .ok (.aload 4, 2) := by decide +kernel
theorem d14_81 : decode zc1 81 = .ok (.invokevirtual 32, 3) := by decide +kernel
theorem tw244 : (Cond.methodLink sq4 32 ⟨sq8, "endTime", "()I"⟩) ∈ tables_1 := mAt 244 rfl
theorem tw248 : (Cond.code ⟨sq8, "endTime", "()I"⟩ prog_1_method_10_code 1 (Option.some FieldType.int)) ∈ tables_1 := mAt 248 rfl
theorem tw247 : (Cond.selects sq8 ⟨sq8, "endTime", "()I"⟩ ⟨sq8, "endTime", "()I"⟩) ∈ tables_1 := mAt 247 rfl
theorem tw245 : (Cond.declares ⟨sq8, "endTime", "()I"⟩) ∈ tables_1 := mAt 245 rfl
theorem tw246 : (Cond.instanceMethod ⟨sq8, "endTime", "()I"⟩) ∈ tables_1 := mAt 246 rfl
theorem d14_84 : decode zc1 84 = .ok (.ifCond .ge 27, 3) := by decide +kernel
theorem d14_111 : decode zc1 111 = .ok (.iinc 3 1, 3) := by decide +kernel
theorem d14_114 : decode zc1 114 = .ok (.goto (-57), 3) := by decide +kernel
theorem tw100 : (Cond.castable sq18 sq1) ∈ tables_1 := mAt 100 rfl
def Q14_1 (Z : State) (a0_ : Addr) (a1_ : Addr) (a2_ : Addr) (wm : Addr) (we : Addr) (wl : Addr) (wo : Addr) (eda : Addr) (ka : ClassId) (ya0 : Addr) (ya1 : Addr) (yl0 : Addr) (edl : Addr) (kl : ClassId) (h0 : Heap) (n0 : Nat) (v : Option Value) (h : Heap) (L : List Loc) : Prop := ∃ (r : Addr), v = none ∧ Fr n0 L ∧ Keep h0 h [a0_] ∧ Exa Z h a0_ sq4 ∧ h0.size ≤ r ∧ Fld Z h a0_ sq4 "legs" sq11 (.ref r) ∧ Exa Z h r sq6 ∧ Fld Z h r sq6 "e0" sq12 (.ref yl0) ∧ Fld Z h r sq6 "e1" sq12 (.ref we)
theorem rm14_1 (l : Launch) (Z : State) (a0 : Array Value) (hw : ∀ d ∈ tables_1, d.before a0 Z = true) (ws : List Jvm.Cond) (a0_ : Addr) (a1_ : Addr) (a2_ : Addr) (wm : Addr) (we : Addr) (wl : Addr) (wo : Addr) (eda : Addr) (ka : ClassId) (ya0 : Addr) (ya1 : Addr) (yl0 : Addr) (edl : Addr) (kl : ClassId) (h0 : Heap) (n0 : Nat) (O0 : Old Z n0 h0) (M_AO : MirM Z sq2 wm) (S_EM : Sta Z Z.heap sq14 "EMPTY" sq12 (.ref we)) (S_EL : Sta Z Z.heap sq14 "EMPTY_LIST" sq36 (.ref wl)) (S_OD : Sta Z Z.heap sq15 "EMPTY" sq22 (.ref wo)) (E0 : Exa Z h0 a0_ sq4) (g0 : n0 ≤ a0_) (F_activities : Fld Z h0 a0_ sq4 "activities" sq11 .null) (F_legs : Fld Z h0 a0_ sq4 "legs" sq11 .null) (F_score : Fld Z h0 a0_ sq4 "score" sq22 .null) (E_a : Exa Z h0 a1_ sq0) (Fd_a : Fld Z h0 a1_ sq0 sq10 sq2 (.ref eda)) (Fs_a : Fld Z h0 a1_ sq0 "size" "I" (.int 2)) (Ed_a : Exa Z h0 eda sq2) (Vd_a : Arv Z h0 eda ka (.object sq1) (10 : Int32) [(.ref ya0), (.ref ya1), .null, .null] .null) (E_l : Exa Z h0 a2_ sq0) (Fd_l : Fld Z h0 a2_ sq0 sq10 sq2 (.ref edl)) (Fs_l : Fld Z h0 a2_ sq0 "size" "I" (.int 1)) (Ed_l : Exa Z h0 edl sq2) (Vd_l : Arv Z h0 edl kl (.object sq1) (10 : Int32) [(.ref yl0), .null, .null, .null] .null) (E_ya0 : Exa Z h0 ya0 sq8) (E_ya1 : Exa Z h0 ya1 sq8) (Fe_ya0 : Fld Z h0 ya0 sq8 "endTime" "I" (.int 0)) (E_yl0 : Exa Z h0 yl0 sq18) (ne_a1_ : a1_ ≠ a0_) (ne_a2_ : a2_ ≠ a0_) (ne_eda : eda ≠ a0_) (ne_edl : edl ≠ a0_) :
    Met l Z ws mm15 prog_46_method_1_code 5 none (Rm 8 4 7 102) #[(.ref a0_), (.ref a1_), (.ref a2_)] h0 (Q14_1 Z a0_ a1_ a2_ wm we wl wo eda ka ya0 ya1 yl0 edl kl h0 n0) := by
  refine Met.enter (L0 := #[SR a0_, SR a1_, SR a2_, .unset, .unset]) (plainFor_of_name pn343) (fun m => ef14_0 m a0_ a1_ a2_) ?_
  intro p e s m below meth c s₁ hx hby hml hown hnm hret hlk hZ X0 e0
  have N0 := Fr.nil n0
  have Z0 := own_z0 O0
  have K0 : Keep h0 h0 [a0_] := Keep.refl h0 _
  refine Go.st (t' := s₁.setTop (mkF m 1 #[SR a0_, SR a1_, SR a2_, .unset, .unset] [(.ref a0_)])) (fun target kt => ?_) ?_
  · refine XS.aloadN X0.here hx rfl (hb hby d14_0) rfl rfl ?_
    exact kt
  obtain ⟨T10, X10, e10, st10⟩ := initO X0 hx hZ hown (hw _ tw107) (hw _ tw24) (hw _ tw25) e0 (g := (mkF m 1 #[SR a0_, SR a1_, SR a2_, .unset, .unset] [(.ref a0_)])) rfl (by rw [hml]; rfl) rfl (hb hby d14_1) (by decide) (W := 0) (by show 2 * 0 + _ ≤ _; exact Nat.le_of_eq rfl) (by decide)
  refine Go.st st10 ?_
  refine Go.st (t' := T10.setTop (mkF m 5 #[SR a0_, SR a1_, SR a2_, .unset, .unset] [(.ref a1_)])) (fun target kt => ?_) ?_
  · refine XS.aloadN X10.here hx rfl (hb hby d14_4) rfl rfl ?_
    exact kt
  refine Go.cps (own_cf (W := 0) (b := a1_) (argsL := []) (rest := []) X10 hx hZ hown (hw _ tw108) (hw _ tw109) (hw _ tw110) (hw _ tw111) (hw _ tw112) (hw _ tw113) (hw _ tw114) (hw _ tw115) (hw _ tw116) (hw _ tw47) (by decide) e10 E_a (rm15_0 l Z a0 hw [] a1_ (2 : Int32) h0 n0 O0  Fs_a (by decide : ¬ ((2 : Int32) = (0 : Int32)))) rfl (by rw [hml]; rfl) (lenOf pd9 rfl) rfl (Nat.le_of_eq rfl) (hb hby d14_5) rfl (by decide)) ?_
  rintro T11 _ L11 X11 ⟨rfl, Nq11, eq11⟩
  have N11 := Fr.app N0 Nq11
  refine Go.st (t' := T11.setTop (mkF m 14 #[SR a0_, SR a1_, SR a2_, .unset, .unset] [(.ref a2_)])) (fun target kt => ?_) ?_
  · refine XS.ifNo X11.here hx rfl (hb hby d14_10) rfl ((if0 _ _).trans (teq (by decide : (0 : Int32) = (0 : Int32))).2) ?_
    refine XS.aloadN X11.here hx rfl (hb hby d14_13) rfl rfl ?_
    exact kt
  refine Go.cps (own_cf (W := 0) (b := a2_) (argsL := []) (rest := []) X11 hx hZ hown (hw _ tw117) (hw _ tw118) (hw _ tw119) (hw _ tw120) (hw _ tw121) (hw _ tw122) (hw _ tw123) (hw _ tw115) (hw _ tw124) (hw _ tw47) (by decide) eq11 E_l (rm16 l Z a0 hw [] a2_ (1 : Int32) h0 n0 O0  Fs_l) rfl (by rw [hml]; rfl) (lenOf pd18 rfl) rfl (Nat.le_of_eq rfl) (hb hby d14_14) rfl (by decide)) ?_
  rintro T12 _ L12 X12 ⟨rfl, Nq12, eq12⟩
  have N12 := Fr.app N11 Nq12
  refine Go.st (t' := T12.setTop (mkF m 20 #[SR a0_, SR a1_, SR a2_, .unset, .unset] [(.ref a1_), (.int 1)])) (fun target kt => ?_) ?_
  · refine XS.aloadN X12.here hx rfl (hb hby d14_19) rfl rfl ?_
    exact kt
  refine Go.cps (own_cf (W := 1) (b := a1_) (argsL := []) (rest := [(.int 1)]) X12 hx hZ hown (hw _ tw117) (hw _ tw118) (hw _ tw119) (hw _ tw120) (hw _ tw121) (hw _ tw122) (hw _ tw123) (hw _ tw115) (hw _ tw124) (hw _ tw47) (by decide) eq12 E_a (rm16 l Z a0 hw [] a1_ (2 : Int32) h0 n0 O0  Fs_a) rfl (by rw [hml]; rfl) (lenOf pd18 rfl) rfl (Nat.le_of_eq rfl) (hb hby d14_20) rfl (by decide)) ?_
  rintro T13 _ L13 X13 ⟨rfl, Nq13, eq13⟩
  have N13 := Fr.app N12 Nq13
  refine Go.st (t' := T13.setTop (mkF m 59 #[SR a0_, SR a1_, SR a2_, SI 0, .unset] [(.ref a2_), (.int 0)])) (fun target kt => ?_) ?_
  · refine XS.iconst X13.here hx rfl (hb hby d14_25) ?_
    refine XS.isub X13.here hx rfl (hb hby d14_26) rfl ?_
    refine XS.icmpYes X13.here hx rfl (pc0 := 27) (pc' := 55) rfl (hb hby d14_27) rfl (teq (by decide : (1 : Int32) = (1 : Int32))).1 (by decide) (by decide) ?_
    refine XS.iconst X13.here hx rfl (hb hby d14_55) ?_
    refine XS.istoreN X13.here hx rfl (hb hby d14_56) rfl (l' := #[SR a0_, SR a1_, SR a2_, SI 0, .unset]) rfl ?_
    refine XS.iloadN X13.here hx rfl (hb hby d14_57) rfl ?_
    refine XS.aloadN X13.here hx rfl (hb hby d14_58) rfl rfl ?_
    exact kt
  refine Go.cps (own_cf (W := 1) (b := a2_) (argsL := []) (rest := [(.int 0)]) X13 hx hZ hown (hw _ tw117) (hw _ tw118) (hw _ tw119) (hw _ tw120) (hw _ tw121) (hw _ tw122) (hw _ tw123) (hw _ tw115) (hw _ tw124) (hw _ tw47) (by decide) eq13 E_l (rm16 l Z a0 hw [] a2_ (1 : Int32) h0 n0 O0  Fs_l) rfl (by rw [hml]; rfl) (lenOf pd18 rfl) rfl (Nat.le_of_eq rfl) (hb hby d14_59) rfl (by decide)) ?_
  rintro T14 _ L14 X14 ⟨rfl, Nq14, eq14⟩
  have N14 := Fr.app N13 Nq14
  refine Go.st (t' := T14.setTop (mkF m 69 #[SR a0_, SR a1_, SR a2_, SI 0, .unset] [(.int 0), (.ref a1_)])) (fun target kt => ?_) ?_
  · refine XS.icmpNo X14.here hx rfl (hb hby d14_64) rfl (tlt (by decide : (0 : Int32) < (1 : Int32))).2.1 ?_
    refine XS.aloadN X14.here hx rfl (hb hby d14_67) rfl rfl ?_
    refine XS.iloadN X14.here hx rfl (hb hby d14_68) rfl ?_
    exact kt
  refine Go.cps (own_cf (W := 0) (b := a1_) (argsL := [(.int 0)]) (rest := []) X14 hx hZ hown (hw _ tw222) (hw _ tw223) (hw _ tw224) (hw _ tw225) (hw _ tw226) (hw _ tw227) (hw _ tw228) (hw _ tw115) (hw _ tw229) (hw _ tw47) (by decide) eq14 E_a (rm30_0_2 l Z a0 hw [] a1_ eda ka ya0 ya1 h0 n0 O0  E_a Fd_a Fs_a Vd_a) rfl (by rw [hml]; rfl) (lenOf pd7 rfl) rfl (Nat.le_of_eq rfl) (hb hby d14_69) rfl (by decide)) ?_
  rintro T15 _ L15 X15 ⟨rfl, Nq15, eq15⟩
  have N15 := Fr.app N14 Nq15
  obtain ⟨T16, X16, e16, st16⟩ := castY X15 hx hZ hown (hw _ tw242) eq15 (Ins.self E_ya0) (g := (mkF m 74 #[SR a0_, SR a1_, SR a2_, SI 0, .unset] [(.ref ya0)])) rfl rfl (hb hby d14_74)
  refine Go.st st16 ?_
  refine Go.st (t' := T16.setTop (mkF m 81 #[SR a0_, SR a1_, SR a2_, SI 0, SR ya0] [(.ref ya0)])) (fun target kt => ?_) ?_
  · refine XS.astore X16.here hx rfl (hb hby d14_77) rfl rfl (l' := #[SR a0_, SR a1_, SR a2_, SI 0, SR ya0]) rfl ?_
    refine XS.aload X16.here hx rfl (hb hby d14_79) rfl rfl ?_
    exact kt
  refine Go.cps (own_cw (W := 0) (b := ya0) (argsL := []) (rest := []) X16 hx hZ hown (hw _ tw244) (hw _ tw245) (hw _ tw247) (hw _ tw246) (hw _ tw248) (hw _ tw3) (by decide) e16 E_ya0 (rm34 l Z a0 hw [] ya0 (0 : Int32) h0 n0 O0  Fe_ya0) rfl (by rw [hml]; rfl) (lenOf pd18 rfl) rfl (Nat.le_of_eq rfl) (hb hby d14_81) rfl (by decide)) ?_
  rintro T17 _ L17 X17 ⟨rfl, Nq17, eq17⟩
  have N17 := Fr.app N15 Nq17
  refine Go.st (t' := T17.setTop (mkF m 59 #[SR a0_, SR a1_, SR a2_, SI 1, SR ya0] [(.ref a2_), (.int 1)])) (fun target kt => ?_) ?_
  · refine XS.ifYes X17.here hx rfl (pc0 := 84) (pc' := 111) rfl (hb hby d14_84) rfl ((if0 _ _).trans (flt (by decide : ¬ ((0 : Int32) < (0 : Int32)))).2.1) (by decide) (by decide) ?_
    refine XS.iinc X17.here hx rfl (hb hby d14_111) rfl (l' := #[SR a0_, SR a1_, SR a2_, SI 1, SR ya0]) rfl ?_
    refine XS.goto X17.here hx rfl (pc0 := 114) (pc' := 57) rfl (hb hby d14_114) (by decide) (by decide) ?_
    refine XS.iloadN X17.here hx rfl (hb hby d14_57) rfl ?_
    refine XS.aloadN X17.here hx rfl (hb hby d14_58) rfl rfl ?_
    exact kt
  refine Go.cps (own_cf (W := 1) (b := a2_) (argsL := []) (rest := [(.int 1)]) X17 hx hZ hown (hw _ tw117) (hw _ tw118) (hw _ tw119) (hw _ tw120) (hw _ tw121) (hw _ tw122) (hw _ tw123) (hw _ tw115) (hw _ tw124) (hw _ tw47) (by decide) eq17 E_l (rm16 l Z a0 hw [] a2_ (1 : Int32) h0 n0 O0  Fs_l) rfl (by rw [hml]; rfl) (lenOf pd18 rfl) rfl (Nat.le_of_eq rfl) (hb hby d14_59) rfl (by decide)) ?_
  rintro T18 _ L18 X18 ⟨rfl, Nq18, eq18⟩
  have N18 := Fr.app N17 Nq18
  refine Go.st (t' := T18.setTop (mkF m 119 #[SR a0_, SR a1_, SR a2_, SI 1, SR ya0] [(.ref a1_), (.ref a0_)])) (fun target kt => ?_) ?_
  · refine XS.icmpYes X18.here hx rfl (pc0 := 64) (pc' := 117) rfl (hb hby d14_64) rfl (flt (by decide : ¬ ((1 : Int32) < (1 : Int32)))).2.1 (by decide) (by decide) ?_
    refine XS.aloadN X18.here hx rfl (hb hby d14_117) rfl rfl ?_
    refine XS.aloadN X18.here hx rfl (hb hby d14_118) rfl rfl ?_
    exact kt
  refine Go.cps (own_cs (W := 1) (argsL := [(.ref a1_)]) (rest := [(.ref a0_)]) X18 hx hZ hown (hw _ tw125) (hw _ tw126) (hw _ tw128) (hw _ tw127) (by decide) eq18 (rm17_2 l Z a0 hw [] a1_ wm eda ka ya0 ya1 h0 n0 O0 M_AO E_a Fd_a Fs_a Ed_a Vd_a (Ins.of_exa E_ya0 (hw _ tw99)) (Ins.of_exa E_ya1 (hw _ tw99))) rfl (by rw [hml]; rfl) (lenOf pd11 rfl) rfl (Nat.le_of_eq rfl) (hb hby d14_119) rfl (by decide)) ?_
  rintro T19 _ L19 X19 ⟨b20, rfl, Nq19, Kq19, q21, q22, q23, q24⟩
  have N19 := Fr.app N18 Nq19
  have sz25 : h0.size ≤ b20 := Nat.le_trans K0.1 q21
  have g26 : n0 ≤ b20 := Nat.le_trans Z0 sz25
  have K27 := K0.trans Kq19 all0
  have O28 := O0.keep Kq19 all0
  have c29 := F_activities.keep Kq19 nin0
  have c30 := E0.keep K27
  obtain ⟨T31, h31, X31, e31, W31, st31⟩ := putF X19 hx hZ hown (host := "") (Or.inl (hw _ tw207)) Via.refl rfl c29 c30 (Or.inr ⟨(hw _ tw208), rfl, hnm⟩) (hw _ tw102) (ty := (.object sq3)) (by decide) rfl rfl (g := (mkF m 122 #[SR a0_, SR a1_, SR a2_, SI 1, SR ya0] [(.ref b20), (.ref a0_)])) rfl rfl (hb hby d14_122)
  have F32 : Fld Z h31 a0_ sq4 "activities" sq11 (.ref b20) := c29.same W31
  have K33 := K27.wr W31 (Or.inl mI0)
  have O34 := O28.wr W31 g0
  have N31 := Fr.snoc X31 N19 g0
  refine Go.st st31 ?_
  refine Go.st (t' := T31.setTop (mkF m 127 #[SR a0_, SR a1_, SR a2_, SI 1, SR ya0] [(.ref a2_), (.ref a0_)])) (fun target kt => ?_) ?_
  · refine XS.aloadN X31.here hx rfl (hb hby d14_125) rfl rfl ?_
    refine XS.aloadN X31.here hx rfl (hb hby d14_126) rfl rfl ?_
    exact kt
  have c35 := E_l.keep K33
  have c36 := Fd_l.keep K33 (ninS ne_a2_ nin0)
  have c37 := Fs_l.keep K33 (ninS ne_a2_ nin0)
  have c38 := Ed_l.keep K33
  have c39 := Vd_l.keep K33 (ninS ne_edl nin0)
  have c40 := E_yl0.keep K33
  refine Go.cps (own_cs (W := 1) (argsL := [(.ref a2_)]) (rest := [(.ref a0_)]) X31 hx hZ hown (hw _ tw125) (hw _ tw126) (hw _ tw128) (hw _ tw127) (by decide) e31 (rm17_1 l Z a0 hw [] a2_ wm edl kl yl0 we h31 n0 O34 M_AO S_EM c35 c36 c37 c38 c39 (Ins.of_exa c40 (hw _ tw100))) rfl (by rw [hml]; rfl) (lenOf pd11 rfl) rfl (Nat.le_of_eq rfl) (hb hby d14_127) rfl (by decide)) ?_
  rintro T41 _ L41 X41 ⟨b42, rfl, Nq41, Kq41, q43, q44, q45, q46⟩
  have N41 := Fr.app N31 Nq41
  have sz47 : h0.size ≤ b42 := Nat.le_trans K33.1 q43
  have g48 : n0 ≤ b42 := Nat.le_trans Z0 sz47
  have K49 := K33.trans Kq41 all0
  have O50 := O34.keep Kq41 all0
  have c51 := ((F_legs.keep Kq19 nin0).other W31 (Or.inr (slot_ne (Or.inr (hw _ tw214)) (Or.inr (hw _ tw208)) (by decide) (t := (.object sq3)) (t' := (.object sq3)) (by decide) (by decide)))).keep Kq41 nin0
  have S_52 : Keep T19.heap T41.heap [a0_] := (((Keep.refl T19.heap [a0_]).wr W31 (Or.inl mI0)).trans Kq41 all0)
  have c53 := c30.keep S_52
  obtain ⟨T54, h54, X54, e54, W54, st54⟩ := putF X41 hx hZ hown (host := "") (Or.inl (hw _ tw213)) Via.refl rfl c51 c53 (Or.inr ⟨(hw _ tw214), rfl, hnm⟩) (hw _ tw102) (ty := (.object sq3)) (by decide) rfl rfl (g := (mkF m 130 #[SR a0_, SR a1_, SR a2_, SI 1, SR ya0] [(.ref b42), (.ref a0_)])) rfl rfl (hb hby d14_130)
  have F55 : Fld Z h54 a0_ sq4 "legs" sq11 (.ref b42) := c51.same W54
  have K56 := K49.wr W54 (Or.inl mI0)
  have O57 := O50.wr W54 g0
  have N54 := Fr.snoc X54 N41 g0
  refine Go.st st54 ?_
  refine Go.st (t' := T54.setTop (mkF m 134 #[SR a0_, SR a1_, SR a2_, SI 1, SR ya0] [(.ref a0_)])) (fun target kt => ?_) ?_
  · refine XS.aloadN X54.here hx rfl (hb hby d14_133) rfl rfl ?_
    exact kt
  refine Go.cps (own_cs (W := 1) (argsL := []) (rest := [(.ref a0_)]) X54 hx hZ hown (hw _ tw215) (hw _ tw216) (hw _ tw218) (hw _ tw217) (by decide) e54 (rm29 l Z a0 hw [] wo h54 n0 O57 S_OD ) rfl (by rw [hml]; rfl) (lenOf pd19 rfl) rfl (Nat.le_of_eq rfl) (hb hby d14_134) rfl (by decide)) ?_
  rintro T58 _ L58 X58 ⟨rfl, Nq58, eq58⟩
  have N58 := Fr.app N54 Nq58
  have c59 := (((F_score.keep Kq19 nin0).other W31 (Or.inr (slot_ne (Or.inr (hw _ tw221)) (Or.inr (hw _ tw208)) (by decide) (t := (.object sq15)) (t' := (.object sq3)) (by decide) (by decide)))).keep Kq41 nin0).other W54 (Or.inr (slot_ne (Or.inr (hw _ tw221)) (Or.inr (hw _ tw214)) (by decide) (t := (.object sq15)) (t' := (.object sq3)) (by decide) (by decide)))
  have c60 := c53.wr W54
  obtain ⟨T61, h61, X61, e61, W61, st61⟩ := putF X58 hx hZ hown (host := "") (Or.inl (hw _ tw220)) Via.refl eq58 c59 c60 (Or.inr ⟨(hw _ tw221), rfl, hnm⟩) (hw _ tw102) (ty := (.object sq15)) (by decide) rfl rfl (g := (mkF m 137 #[SR a0_, SR a1_, SR a2_, SI 1, SR ya0] [(.ref wo), (.ref a0_)])) rfl rfl (hb hby d14_137)
  have F62 : Fld Z h61 a0_ sq4 "score" sq22 (.ref wo) := c59.same W61
  have K63 := K56.wr W61 (Or.inl mI0)
  have O64 := O57.wr W61 g0
  have N61 := Fr.snoc X61 N58 g0
  refine Go.st st61 ?_
  have c65 := c60.wr W61
  have c66 := F55.other W61 (Or.inr (slot_ne (Or.inr (hw _ tw214)) (Or.inr (hw _ tw221)) (by decide) (t := (.object sq3)) (t' := (.object sq15)) (by decide) (by decide)))
  have S_67 : Keep T41.heap h61 [a0_] := (((Keep.refl T41.heap [a0_]).wr W54 (Or.inl mI0)).wr W61 (Or.inl mI0))
  have c68 := q44.keep S_67
  have o69 : a0_ < b20 := Nat.lt_of_lt_of_le E0.lt q21
  have o70 : b20 < b42 := Nat.lt_of_lt_of_le q22.lt (Nat.le_trans (Keep.of_wr W31).1 q43)
  have o71 : a0_ < b42 := Nat.lt_trans o69 o70
  have ne72 : a0_ ≠ b42 := Nat.ne_of_lt o71
  have c73 := q45.keep S_67 (ninS (Ne.symm ne72) nin0)
  have c74 := q46.keep S_67 (ninS (Ne.symm ne72) nin0)
  refine Go.ret X61 (v := none) (fun _ => rfl) hlk (fun fs hr => X61.returnOut hx hret (hb hby d14_140) hr) ?_ (by decide) (by decide)
  show Q14_1 Z a0_ a1_ a2_ wm we wl wo eda ka ya0 ya1 yl0 edl kl h0 n0 _ T61.heap _
  rw [e61]
  exact ⟨b42, rfl, N61, K63, c65, (by first | assumption | decide | omega), c66, c68, c73, c74⟩
def Q14_2 (Z : State) (a0_ : Addr) (a1_ : Addr) (a2_ : Addr) (wm : Addr) (we : Addr) (wl : Addr) (wo : Addr) (eda : Addr) (ka : ClassId) (ya0 : Addr) (ya1 : Addr) (ya2 : Addr) (yl0 : Addr) (yl1 : Addr) (edl : Addr) (kl : ClassId) (h0 : Heap) (n0 : Nat) (v : Option Value) (h : Heap) (L : List Loc) : Prop := ∃ (r : Addr), v = none ∧ Fr n0 L ∧ Keep h0 h [a0_] ∧ Exa Z h a0_ sq4 ∧ h0.size ≤ r ∧ Fld Z h a0_ sq4 "legs" sq11 (.ref r) ∧ Exa Z h r sq6 ∧ Fld Z h r sq6 "e0" sq12 (.ref yl0) ∧ Fld Z h r sq6 "e1" sq12 (.ref yl1)
theorem rm14_2 (l : Launch) (Z : State) (a0 : Array Value) (hw : ∀ d ∈ tables_1, d.before a0 Z = true) (ws : List Jvm.Cond) (a0_ : Addr) (a1_ : Addr) (a2_ : Addr) (wm : Addr) (we : Addr) (wl : Addr) (wo : Addr) (eda : Addr) (ka : ClassId) (ya0 : Addr) (ya1 : Addr) (ya2 : Addr) (yl0 : Addr) (yl1 : Addr) (edl : Addr) (kl : ClassId) (h0 : Heap) (n0 : Nat) (O0 : Old Z n0 h0) (M_AO : MirM Z sq2 wm) (S_EM : Sta Z Z.heap sq14 "EMPTY" sq12 (.ref we)) (S_EL : Sta Z Z.heap sq14 "EMPTY_LIST" sq36 (.ref wl)) (S_OD : Sta Z Z.heap sq15 "EMPTY" sq22 (.ref wo)) (E0 : Exa Z h0 a0_ sq4) (g0 : n0 ≤ a0_) (F_activities : Fld Z h0 a0_ sq4 "activities" sq11 .null) (F_legs : Fld Z h0 a0_ sq4 "legs" sq11 .null) (F_score : Fld Z h0 a0_ sq4 "score" sq22 .null) (E_a : Exa Z h0 a1_ sq0) (Fd_a : Fld Z h0 a1_ sq0 sq10 sq2 (.ref eda)) (Fs_a : Fld Z h0 a1_ sq0 "size" "I" (.int 3)) (Ed_a : Exa Z h0 eda sq2) (Vd_a : Arv Z h0 eda ka (.object sq1) (10 : Int32) [(.ref ya0), (.ref ya1), (.ref ya2), .null] .null) (E_l : Exa Z h0 a2_ sq0) (Fd_l : Fld Z h0 a2_ sq0 sq10 sq2 (.ref edl)) (Fs_l : Fld Z h0 a2_ sq0 "size" "I" (.int 2)) (Ed_l : Exa Z h0 edl sq2) (Vd_l : Arv Z h0 edl kl (.object sq1) (10 : Int32) [(.ref yl0), (.ref yl1), .null, .null] .null) (E_ya0 : Exa Z h0 ya0 sq8) (E_ya1 : Exa Z h0 ya1 sq8) (E_ya2 : Exa Z h0 ya2 sq8) (Fe_ya0 : Fld Z h0 ya0 sq8 "endTime" "I" (.int 0)) (Fe_ya1 : Fld Z h0 ya1 sq8 "endTime" "I" (.int 0)) (E_yl0 : Exa Z h0 yl0 sq18) (E_yl1 : Exa Z h0 yl1 sq18) (ne_a1_ : a1_ ≠ a0_) (ne_a2_ : a2_ ≠ a0_) (ne_eda : eda ≠ a0_) (ne_edl : edl ≠ a0_) :
    Met l Z ws mm15 prog_46_method_1_code 5 none (Rm 9 5 12 116) #[(.ref a0_), (.ref a1_), (.ref a2_)] h0 (Q14_2 Z a0_ a1_ a2_ wm we wl wo eda ka ya0 ya1 ya2 yl0 yl1 edl kl h0 n0) := by
  refine Met.enter (L0 := #[SR a0_, SR a1_, SR a2_, .unset, .unset]) (plainFor_of_name pn343) (fun m => ef14_0 m a0_ a1_ a2_) ?_
  intro p e s m below meth c s₁ hx hby hml hown hnm hret hlk hZ X0 e0
  have N0 := Fr.nil n0
  have Z0 := own_z0 O0
  have K0 : Keep h0 h0 [a0_] := Keep.refl h0 _
  refine Go.st (t' := s₁.setTop (mkF m 1 #[SR a0_, SR a1_, SR a2_, .unset, .unset] [(.ref a0_)])) (fun target kt => ?_) ?_
  · refine XS.aloadN X0.here hx rfl (hb hby d14_0) rfl rfl ?_
    exact kt
  obtain ⟨T10, X10, e10, st10⟩ := initO X0 hx hZ hown (hw _ tw107) (hw _ tw24) (hw _ tw25) e0 (g := (mkF m 1 #[SR a0_, SR a1_, SR a2_, .unset, .unset] [(.ref a0_)])) rfl (by rw [hml]; rfl) rfl (hb hby d14_1) (by decide) (W := 0) (by show 2 * 0 + _ ≤ _; exact Nat.le_of_eq rfl) (by decide)
  refine Go.st st10 ?_
  refine Go.st (t' := T10.setTop (mkF m 5 #[SR a0_, SR a1_, SR a2_, .unset, .unset] [(.ref a1_)])) (fun target kt => ?_) ?_
  · refine XS.aloadN X10.here hx rfl (hb hby d14_4) rfl rfl ?_
    exact kt
  refine Go.cps (own_cf (W := 0) (b := a1_) (argsL := []) (rest := []) X10 hx hZ hown (hw _ tw108) (hw _ tw109) (hw _ tw110) (hw _ tw111) (hw _ tw112) (hw _ tw113) (hw _ tw114) (hw _ tw115) (hw _ tw116) (hw _ tw47) (by decide) e10 E_a (rm15_0 l Z a0 hw [] a1_ (3 : Int32) h0 n0 O0  Fs_a (by decide : ¬ ((3 : Int32) = (0 : Int32)))) rfl (by rw [hml]; rfl) (lenOf pd9 rfl) rfl (Nat.le_of_eq rfl) (hb hby d14_5) rfl (by decide)) ?_
  rintro T11 _ L11 X11 ⟨rfl, Nq11, eq11⟩
  have N11 := Fr.app N0 Nq11
  refine Go.st (t' := T11.setTop (mkF m 14 #[SR a0_, SR a1_, SR a2_, .unset, .unset] [(.ref a2_)])) (fun target kt => ?_) ?_
  · refine XS.ifNo X11.here hx rfl (hb hby d14_10) rfl ((if0 _ _).trans (teq (by decide : (0 : Int32) = (0 : Int32))).2) ?_
    refine XS.aloadN X11.here hx rfl (hb hby d14_13) rfl rfl ?_
    exact kt
  refine Go.cps (own_cf (W := 0) (b := a2_) (argsL := []) (rest := []) X11 hx hZ hown (hw _ tw117) (hw _ tw118) (hw _ tw119) (hw _ tw120) (hw _ tw121) (hw _ tw122) (hw _ tw123) (hw _ tw115) (hw _ tw124) (hw _ tw47) (by decide) eq11 E_l (rm16 l Z a0 hw [] a2_ (2 : Int32) h0 n0 O0  Fs_l) rfl (by rw [hml]; rfl) (lenOf pd18 rfl) rfl (Nat.le_of_eq rfl) (hb hby d14_14) rfl (by decide)) ?_
  rintro T12 _ L12 X12 ⟨rfl, Nq12, eq12⟩
  have N12 := Fr.app N11 Nq12
  refine Go.st (t' := T12.setTop (mkF m 20 #[SR a0_, SR a1_, SR a2_, .unset, .unset] [(.ref a1_), (.int 2)])) (fun target kt => ?_) ?_
  · refine XS.aloadN X12.here hx rfl (hb hby d14_19) rfl rfl ?_
    exact kt
  refine Go.cps (own_cf (W := 1) (b := a1_) (argsL := []) (rest := [(.int 2)]) X12 hx hZ hown (hw _ tw117) (hw _ tw118) (hw _ tw119) (hw _ tw120) (hw _ tw121) (hw _ tw122) (hw _ tw123) (hw _ tw115) (hw _ tw124) (hw _ tw47) (by decide) eq12 E_a (rm16 l Z a0 hw [] a1_ (3 : Int32) h0 n0 O0  Fs_a) rfl (by rw [hml]; rfl) (lenOf pd18 rfl) rfl (Nat.le_of_eq rfl) (hb hby d14_20) rfl (by decide)) ?_
  rintro T13 _ L13 X13 ⟨rfl, Nq13, eq13⟩
  have N13 := Fr.app N12 Nq13
  refine Go.st (t' := T13.setTop (mkF m 59 #[SR a0_, SR a1_, SR a2_, SI 0, .unset] [(.ref a2_), (.int 0)])) (fun target kt => ?_) ?_
  · refine XS.iconst X13.here hx rfl (hb hby d14_25) ?_
    refine XS.isub X13.here hx rfl (hb hby d14_26) rfl ?_
    refine XS.icmpYes X13.here hx rfl (pc0 := 27) (pc' := 55) rfl (hb hby d14_27) rfl (teq (by decide : (2 : Int32) = (2 : Int32))).1 (by decide) (by decide) ?_
    refine XS.iconst X13.here hx rfl (hb hby d14_55) ?_
    refine XS.istoreN X13.here hx rfl (hb hby d14_56) rfl (l' := #[SR a0_, SR a1_, SR a2_, SI 0, .unset]) rfl ?_
    refine XS.iloadN X13.here hx rfl (hb hby d14_57) rfl ?_
    refine XS.aloadN X13.here hx rfl (hb hby d14_58) rfl rfl ?_
    exact kt
  refine Go.cps (own_cf (W := 1) (b := a2_) (argsL := []) (rest := [(.int 0)]) X13 hx hZ hown (hw _ tw117) (hw _ tw118) (hw _ tw119) (hw _ tw120) (hw _ tw121) (hw _ tw122) (hw _ tw123) (hw _ tw115) (hw _ tw124) (hw _ tw47) (by decide) eq13 E_l (rm16 l Z a0 hw [] a2_ (2 : Int32) h0 n0 O0  Fs_l) rfl (by rw [hml]; rfl) (lenOf pd18 rfl) rfl (Nat.le_of_eq rfl) (hb hby d14_59) rfl (by decide)) ?_
  rintro T14 _ L14 X14 ⟨rfl, Nq14, eq14⟩
  have N14 := Fr.app N13 Nq14
  refine Go.st (t' := T14.setTop (mkF m 69 #[SR a0_, SR a1_, SR a2_, SI 0, .unset] [(.int 0), (.ref a1_)])) (fun target kt => ?_) ?_
  · refine XS.icmpNo X14.here hx rfl (hb hby d14_64) rfl (tlt (by decide : (0 : Int32) < (2 : Int32))).2.1 ?_
    refine XS.aloadN X14.here hx rfl (hb hby d14_67) rfl rfl ?_
    refine XS.iloadN X14.here hx rfl (hb hby d14_68) rfl ?_
    exact kt
  refine Go.cps (own_cf (W := 0) (b := a1_) (argsL := [(.int 0)]) (rest := []) X14 hx hZ hown (hw _ tw222) (hw _ tw223) (hw _ tw224) (hw _ tw225) (hw _ tw226) (hw _ tw227) (hw _ tw228) (hw _ tw115) (hw _ tw229) (hw _ tw47) (by decide) eq14 E_a (rm30_0_3 l Z a0 hw [] a1_ eda ka ya0 ya1 ya2 h0 n0 O0  E_a Fd_a Fs_a Vd_a) rfl (by rw [hml]; rfl) (lenOf pd7 rfl) rfl (Nat.le_of_eq rfl) (hb hby d14_69) rfl (by decide)) ?_
  rintro T15 _ L15 X15 ⟨rfl, Nq15, eq15⟩
  have N15 := Fr.app N14 Nq15
  obtain ⟨T16, X16, e16, st16⟩ := castY X15 hx hZ hown (hw _ tw242) eq15 (Ins.self E_ya0) (g := (mkF m 74 #[SR a0_, SR a1_, SR a2_, SI 0, .unset] [(.ref ya0)])) rfl rfl (hb hby d14_74)
  refine Go.st st16 ?_
  refine Go.st (t' := T16.setTop (mkF m 81 #[SR a0_, SR a1_, SR a2_, SI 0, SR ya0] [(.ref ya0)])) (fun target kt => ?_) ?_
  · refine XS.astore X16.here hx rfl (hb hby d14_77) rfl rfl (l' := #[SR a0_, SR a1_, SR a2_, SI 0, SR ya0]) rfl ?_
    refine XS.aload X16.here hx rfl (hb hby d14_79) rfl rfl ?_
    exact kt
  refine Go.cps (own_cw (W := 0) (b := ya0) (argsL := []) (rest := []) X16 hx hZ hown (hw _ tw244) (hw _ tw245) (hw _ tw247) (hw _ tw246) (hw _ tw248) (hw _ tw3) (by decide) e16 E_ya0 (rm34 l Z a0 hw [] ya0 (0 : Int32) h0 n0 O0  Fe_ya0) rfl (by rw [hml]; rfl) (lenOf pd18 rfl) rfl (Nat.le_of_eq rfl) (hb hby d14_81) rfl (by decide)) ?_
  rintro T17 _ L17 X17 ⟨rfl, Nq17, eq17⟩
  have N17 := Fr.app N15 Nq17
  refine Go.st (t' := T17.setTop (mkF m 59 #[SR a0_, SR a1_, SR a2_, SI 1, SR ya0] [(.ref a2_), (.int 1)])) (fun target kt => ?_) ?_
  · refine XS.ifYes X17.here hx rfl (pc0 := 84) (pc' := 111) rfl (hb hby d14_84) rfl ((if0 _ _).trans (flt (by decide : ¬ ((0 : Int32) < (0 : Int32)))).2.1) (by decide) (by decide) ?_
    refine XS.iinc X17.here hx rfl (hb hby d14_111) rfl (l' := #[SR a0_, SR a1_, SR a2_, SI 1, SR ya0]) rfl ?_
    refine XS.goto X17.here hx rfl (pc0 := 114) (pc' := 57) rfl (hb hby d14_114) (by decide) (by decide) ?_
    refine XS.iloadN X17.here hx rfl (hb hby d14_57) rfl ?_
    refine XS.aloadN X17.here hx rfl (hb hby d14_58) rfl rfl ?_
    exact kt
  refine Go.cps (own_cf (W := 1) (b := a2_) (argsL := []) (rest := [(.int 1)]) X17 hx hZ hown (hw _ tw117) (hw _ tw118) (hw _ tw119) (hw _ tw120) (hw _ tw121) (hw _ tw122) (hw _ tw123) (hw _ tw115) (hw _ tw124) (hw _ tw47) (by decide) eq17 E_l (rm16 l Z a0 hw [] a2_ (2 : Int32) h0 n0 O0  Fs_l) rfl (by rw [hml]; rfl) (lenOf pd18 rfl) rfl (Nat.le_of_eq rfl) (hb hby d14_59) rfl (by decide)) ?_
  rintro T18 _ L18 X18 ⟨rfl, Nq18, eq18⟩
  have N18 := Fr.app N17 Nq18
  refine Go.st (t' := T18.setTop (mkF m 69 #[SR a0_, SR a1_, SR a2_, SI 1, SR ya0] [(.int 1), (.ref a1_)])) (fun target kt => ?_) ?_
  · refine XS.icmpNo X18.here hx rfl (hb hby d14_64) rfl (tlt (by decide : (1 : Int32) < (2 : Int32))).2.1 ?_
    refine XS.aloadN X18.here hx rfl (hb hby d14_67) rfl rfl ?_
    refine XS.iloadN X18.here hx rfl (hb hby d14_68) rfl ?_
    exact kt
  refine Go.cps (own_cf (W := 0) (b := a1_) (argsL := [(.int 1)]) (rest := []) X18 hx hZ hown (hw _ tw222) (hw _ tw223) (hw _ tw224) (hw _ tw225) (hw _ tw226) (hw _ tw227) (hw _ tw228) (hw _ tw115) (hw _ tw229) (hw _ tw47) (by decide) eq18 E_a (rm30_1_3 l Z a0 hw [] a1_ eda ka ya0 ya1 ya2 h0 n0 O0  E_a Fd_a Fs_a Vd_a) rfl (by rw [hml]; rfl) (lenOf pd7 rfl) rfl (Nat.le_of_eq rfl) (hb hby d14_69) rfl (by decide)) ?_
  rintro T19 _ L19 X19 ⟨rfl, Nq19, eq19⟩
  have N19 := Fr.app N18 Nq19
  obtain ⟨T20, X20, e20, st20⟩ := castY X19 hx hZ hown (hw _ tw242) eq19 (Ins.self E_ya1) (g := (mkF m 74 #[SR a0_, SR a1_, SR a2_, SI 1, SR ya0] [(.ref ya1)])) rfl rfl (hb hby d14_74)
  refine Go.st st20 ?_
  refine Go.st (t' := T20.setTop (mkF m 81 #[SR a0_, SR a1_, SR a2_, SI 1, SR ya1] [(.ref ya1)])) (fun target kt => ?_) ?_
  · refine XS.astore X20.here hx rfl (hb hby d14_77) rfl rfl (l' := #[SR a0_, SR a1_, SR a2_, SI 1, SR ya1]) rfl ?_
    refine XS.aload X20.here hx rfl (hb hby d14_79) rfl rfl ?_
    exact kt
  refine Go.cps (own_cw (W := 0) (b := ya1) (argsL := []) (rest := []) X20 hx hZ hown (hw _ tw244) (hw _ tw245) (hw _ tw247) (hw _ tw246) (hw _ tw248) (hw _ tw3) (by decide) e20 E_ya1 (rm34 l Z a0 hw [] ya1 (0 : Int32) h0 n0 O0  Fe_ya1) rfl (by rw [hml]; rfl) (lenOf pd18 rfl) rfl (Nat.le_of_eq rfl) (hb hby d14_81) rfl (by decide)) ?_
  rintro T21 _ L21 X21 ⟨rfl, Nq21, eq21⟩
  have N21 := Fr.app N19 Nq21
  refine Go.st (t' := T21.setTop (mkF m 59 #[SR a0_, SR a1_, SR a2_, SI 2, SR ya1] [(.ref a2_), (.int 2)])) (fun target kt => ?_) ?_
  · refine XS.ifYes X21.here hx rfl (pc0 := 84) (pc' := 111) rfl (hb hby d14_84) rfl ((if0 _ _).trans (flt (by decide : ¬ ((0 : Int32) < (0 : Int32)))).2.1) (by decide) (by decide) ?_
    refine XS.iinc X21.here hx rfl (hb hby d14_111) rfl (l' := #[SR a0_, SR a1_, SR a2_, SI 2, SR ya1]) rfl ?_
    refine XS.goto X21.here hx rfl (pc0 := 114) (pc' := 57) rfl (hb hby d14_114) (by decide) (by decide) ?_
    refine XS.iloadN X21.here hx rfl (hb hby d14_57) rfl ?_
    refine XS.aloadN X21.here hx rfl (hb hby d14_58) rfl rfl ?_
    exact kt
  refine Go.cps (own_cf (W := 1) (b := a2_) (argsL := []) (rest := [(.int 2)]) X21 hx hZ hown (hw _ tw117) (hw _ tw118) (hw _ tw119) (hw _ tw120) (hw _ tw121) (hw _ tw122) (hw _ tw123) (hw _ tw115) (hw _ tw124) (hw _ tw47) (by decide) eq21 E_l (rm16 l Z a0 hw [] a2_ (2 : Int32) h0 n0 O0  Fs_l) rfl (by rw [hml]; rfl) (lenOf pd18 rfl) rfl (Nat.le_of_eq rfl) (hb hby d14_59) rfl (by decide)) ?_
  rintro T22 _ L22 X22 ⟨rfl, Nq22, eq22⟩
  have N22 := Fr.app N21 Nq22
  refine Go.st (t' := T22.setTop (mkF m 119 #[SR a0_, SR a1_, SR a2_, SI 2, SR ya1] [(.ref a1_), (.ref a0_)])) (fun target kt => ?_) ?_
  · refine XS.icmpYes X22.here hx rfl (pc0 := 64) (pc' := 117) rfl (hb hby d14_64) rfl (flt (by decide : ¬ ((2 : Int32) < (2 : Int32)))).2.1 (by decide) (by decide) ?_
    refine XS.aloadN X22.here hx rfl (hb hby d14_117) rfl rfl ?_
    refine XS.aloadN X22.here hx rfl (hb hby d14_118) rfl rfl ?_
    exact kt
  refine Go.cps (own_cs (W := 1) (argsL := [(.ref a1_)]) (rest := [(.ref a0_)]) X22 hx hZ hown (hw _ tw125) (hw _ tw126) (hw _ tw128) (hw _ tw127) (by decide) eq22 (rm17_3 l Z a0 hw [] a1_ wm eda ka ya0 ya1 ya2 h0 n0 O0 M_AO E_a Fd_a Fs_a Ed_a Vd_a (Ins.of_exa E_ya0 (hw _ tw99)) (Ins.of_exa E_ya1 (hw _ tw99)) (Ins.of_exa E_ya2 (hw _ tw99))) rfl (by rw [hml]; rfl) (lenOf pd11 rfl) rfl (Nat.le_of_eq rfl) (hb hby d14_119) rfl (by decide)) ?_
  rintro T23 _ L23 X23 ⟨b24, b25, k26, rfl, Nq23, Kq23, q27, q28, q29, q30, q31⟩
  have N23 := Fr.app N22 Nq23
  have sz32 : h0.size ≤ b24 := Nat.le_trans K0.1 q27
  have g33 : n0 ≤ b24 := Nat.le_trans Z0 sz32
  have sz34 : h0.size ≤ b25 := Nat.le_trans K0.1 q28
  have g35 : n0 ≤ b25 := Nat.le_trans Z0 sz34
  have K36 := K0.trans Kq23 all0
  have O37 := O0.keep Kq23 all0
  have c38 := F_activities.keep Kq23 nin0
  have c39 := E0.keep K36
  obtain ⟨T40, h40, X40, e40, W40, st40⟩ := putF X23 hx hZ hown (host := "") (Or.inl (hw _ tw207)) Via.refl rfl c38 c39 (Or.inr ⟨(hw _ tw208), rfl, hnm⟩) (hw _ tw102) (ty := (.object sq3)) (by decide) rfl rfl (g := (mkF m 122 #[SR a0_, SR a1_, SR a2_, SI 2, SR ya1] [(.ref b24), (.ref a0_)])) rfl rfl (hb hby d14_122)
  have F41 : Fld Z h40 a0_ sq4 "activities" sq11 (.ref b24) := c38.same W40
  have K42 := K36.wr W40 (Or.inl mI0)
  have O43 := O37.wr W40 g0
  have N40 := Fr.snoc X40 N23 g0
  refine Go.st st40 ?_
  refine Go.st (t' := T40.setTop (mkF m 127 #[SR a0_, SR a1_, SR a2_, SI 2, SR ya1] [(.ref a2_), (.ref a0_)])) (fun target kt => ?_) ?_
  · refine XS.aloadN X40.here hx rfl (hb hby d14_125) rfl rfl ?_
    refine XS.aloadN X40.here hx rfl (hb hby d14_126) rfl rfl ?_
    exact kt
  have c44 := E_l.keep K42
  have c45 := Fd_l.keep K42 (ninS ne_a2_ nin0)
  have c46 := Fs_l.keep K42 (ninS ne_a2_ nin0)
  have c47 := Ed_l.keep K42
  have c48 := Vd_l.keep K42 (ninS ne_edl nin0)
  have c49 := E_yl0.keep K42
  have c50 := E_yl1.keep K42
  refine Go.cps (own_cs (W := 1) (argsL := [(.ref a2_)]) (rest := [(.ref a0_)]) X40 hx hZ hown (hw _ tw125) (hw _ tw126) (hw _ tw128) (hw _ tw127) (by decide) e40 (rm17_2 l Z a0 hw [] a2_ wm edl kl yl0 yl1 h40 n0 O43 M_AO c44 c45 c46 c47 c48 (Ins.of_exa c49 (hw _ tw100)) (Ins.of_exa c50 (hw _ tw100))) rfl (by rw [hml]; rfl) (lenOf pd11 rfl) rfl (Nat.le_of_eq rfl) (hb hby d14_127) rfl (by decide)) ?_
  rintro T51 _ L51 X51 ⟨b52, rfl, Nq51, Kq51, q53, q54, q55, q56⟩
  have N51 := Fr.app N40 Nq51
  have sz57 : h0.size ≤ b52 := Nat.le_trans K42.1 q53
  have g58 : n0 ≤ b52 := Nat.le_trans Z0 sz57
  have K59 := K42.trans Kq51 all0
  have O60 := O43.keep Kq51 all0
  have c61 := ((F_legs.keep Kq23 nin0).other W40 (Or.inr (slot_ne (Or.inr (hw _ tw214)) (Or.inr (hw _ tw208)) (by decide) (t := (.object sq3)) (t' := (.object sq3)) (by decide) (by decide)))).keep Kq51 nin0
  have S_62 : Keep T23.heap T51.heap [a0_] := (((Keep.refl T23.heap [a0_]).wr W40 (Or.inl mI0)).trans Kq51 all0)
  have c63 := c39.keep S_62
  obtain ⟨T64, h64, X64, e64, W64, st64⟩ := putF X51 hx hZ hown (host := "") (Or.inl (hw _ tw213)) Via.refl rfl c61 c63 (Or.inr ⟨(hw _ tw214), rfl, hnm⟩) (hw _ tw102) (ty := (.object sq3)) (by decide) rfl rfl (g := (mkF m 130 #[SR a0_, SR a1_, SR a2_, SI 2, SR ya1] [(.ref b52), (.ref a0_)])) rfl rfl (hb hby d14_130)
  have F65 : Fld Z h64 a0_ sq4 "legs" sq11 (.ref b52) := c61.same W64
  have K66 := K59.wr W64 (Or.inl mI0)
  have O67 := O60.wr W64 g0
  have N64 := Fr.snoc X64 N51 g0
  refine Go.st st64 ?_
  refine Go.st (t' := T64.setTop (mkF m 134 #[SR a0_, SR a1_, SR a2_, SI 2, SR ya1] [(.ref a0_)])) (fun target kt => ?_) ?_
  · refine XS.aloadN X64.here hx rfl (hb hby d14_133) rfl rfl ?_
    exact kt
  refine Go.cps (own_cs (W := 1) (argsL := []) (rest := [(.ref a0_)]) X64 hx hZ hown (hw _ tw215) (hw _ tw216) (hw _ tw218) (hw _ tw217) (by decide) e64 (rm29 l Z a0 hw [] wo h64 n0 O67 S_OD ) rfl (by rw [hml]; rfl) (lenOf pd19 rfl) rfl (Nat.le_of_eq rfl) (hb hby d14_134) rfl (by decide)) ?_
  rintro T68 _ L68 X68 ⟨rfl, Nq68, eq68⟩
  have N68 := Fr.app N64 Nq68
  have c69 := (((F_score.keep Kq23 nin0).other W40 (Or.inr (slot_ne (Or.inr (hw _ tw221)) (Or.inr (hw _ tw208)) (by decide) (t := (.object sq15)) (t' := (.object sq3)) (by decide) (by decide)))).keep Kq51 nin0).other W64 (Or.inr (slot_ne (Or.inr (hw _ tw221)) (Or.inr (hw _ tw214)) (by decide) (t := (.object sq15)) (t' := (.object sq3)) (by decide) (by decide)))
  have c70 := c63.wr W64
  obtain ⟨T71, h71, X71, e71, W71, st71⟩ := putF X68 hx hZ hown (host := "") (Or.inl (hw _ tw220)) Via.refl eq68 c69 c70 (Or.inr ⟨(hw _ tw221), rfl, hnm⟩) (hw _ tw102) (ty := (.object sq15)) (by decide) rfl rfl (g := (mkF m 137 #[SR a0_, SR a1_, SR a2_, SI 2, SR ya1] [(.ref wo), (.ref a0_)])) rfl rfl (hb hby d14_137)
  have F72 : Fld Z h71 a0_ sq4 "score" sq22 (.ref wo) := c69.same W71
  have K73 := K66.wr W71 (Or.inl mI0)
  have O74 := O67.wr W71 g0
  have N71 := Fr.snoc X71 N68 g0
  refine Go.st st71 ?_
  have c75 := c70.wr W71
  have c76 := F65.other W71 (Or.inr (slot_ne (Or.inr (hw _ tw214)) (Or.inr (hw _ tw221)) (by decide) (t := (.object sq3)) (t' := (.object sq15)) (by decide) (by decide)))
  have S_77 : Keep T51.heap h71 [a0_] := (((Keep.refl T51.heap [a0_]).wr W64 (Or.inl mI0)).wr W71 (Or.inl mI0))
  have c78 := q54.keep S_77
  have o79 : a0_ < b25 := Nat.lt_of_lt_of_le E0.lt q28
  have o80 : b25 < b52 := Nat.lt_of_lt_of_le q31.lt (Nat.le_trans (Keep.of_wr W40).1 q53)
  have o81 : a0_ < b52 := Nat.lt_trans o79 o80
  have ne82 : a0_ ≠ b52 := Nat.ne_of_lt o81
  have c83 := q55.keep S_77 (ninS (Ne.symm ne82) nin0)
  have c84 := q56.keep S_77 (ninS (Ne.symm ne82) nin0)
  refine Go.ret X71 (v := none) (fun _ => rfl) hlk (fun fs hr => X71.returnOut hx hret (hb hby d14_140) hr) ?_ (by decide) (by decide)
  show Q14_2 Z a0_ a1_ a2_ wm we wl wo eda ka ya0 ya1 ya2 yl0 yl1 edl kl h0 n0 _ T71.heap _
  rw [e71]
  exact ⟨b52, rfl, N71, K73, c75, (by first | assumption | decide | omega), c76, c78, c83, c84⟩
theorem d38_0 : decode zc5 0 = .ok (.aload_n 0, 1) := by decide +kernel
theorem d38_1 : decode zc5 1 = .ok (.invokespecial 1, 3) := by decide +kernel
theorem tw279 : (Cond.methodLink sq9 1 ⟨sq1, "<init>", "()V"⟩) ∈ tables_1 := mAt 279 rfl
theorem d38_4 : decode zc5 4 = .ok (.iload_n 3, 1) := by decide +kernel
theorem d38_5 : decode zc5 5 = .ok (.ifCond .lt 13, 3) := by decide +kernel
theorem d38_8 : decode zc5 8 = .ok (.iload_n 3, 1) := by decide +kernel
theorem d38_9 : decode zc5 9 = .ok (.aload_n 2, 1) := by decide +kernel
theorem d38_10 : decode zc5 10 = .ok (.invokeinterface 7 1, 5) := by decide +kernel
theorem tw280 : (Cond.methodLink sq9 7 ⟨sq3, "size", "()I"⟩) ∈ tables_1 := mAt 280 rfl
theorem d38_15 : decode zc5 15 = .ok (.if_icmp .lt 18, 3) := by decide +kernel
theorem d38_33 : decode zc5 33 = .ok (.aload_n 0, 1) := by decide +kernel
theorem d38_34 : decode zc5 34 = .ok (.aload_n 1, 1) := by decide +kernel
theorem d38_35 : decode zc5 35 = .ok (.putfield 22, 3) := by decide +kernel
theorem tw281 : (Cond.fieldLink sq9 22 sq9 "id" sq23) ∈ tables_1 := mAt 281 rfl
theorem tw282 : (Cond.laysFinal sq9 sq9 "id" sq23) ∈ tables_1 := mAt 282 rfl
theorem tw273 : (Cond.instantiable sq9 3) ∈ tables_1 := mAt 273 rfl
theorem d38_38 : decode zc5 38 = .ok (.aload_n 0, 1) := by decide +kernel
theorem d38_39 : decode zc5 39 = .ok (.aload_n 2, 1) := by decide +kernel
theorem d38_40 : decode zc5 40 = .ok (.invokestatic 28, 3) := by decide +kernel
theorem tw283 : (Cond.methodLink sq9 28 ⟨sq3, "copyOf", sq27⟩) ∈ tables_1 := mAt 283 rfl
theorem tw271 : (Cond.castable sq4 sq1) ∈ tables_1 := mAt 271 rfl
theorem d38_43 : decode zc5 43 = .ok (.putfield 32, 3) := by decide +kernel
theorem tw284 : (Cond.fieldLink sq9 32 sq9 "plans" sq11) ∈ tables_1 := mAt 284 rfl
theorem tw285 : (Cond.laysFinal sq9 sq9 "plans" sq11) ∈ tables_1 := mAt 285 rfl
theorem d38_46 : decode zc5 46 = .ok (.aload_n 0, 1) := by decide +kernel
theorem d38_47 : decode zc5 47 = .ok (.iload_n 3, 1) := by decide +kernel
theorem d38_48 : decode zc5 48 = .ok (.putfield 36, 3) := by decide +kernel
theorem tw286 : (Cond.fieldLink sq9 36 sq9 "selected" "I") ∈ tables_1 := mAt 286 rfl
theorem tw287 : (Cond.laysFinal sq9 sq9 "selected" "I") ∈ tables_1 := mAt 287 rfl
theorem d38_51 : decode zc5 51 = .ok (.return_, 1) := by decide +kernel
theorem ef38 (m : MethodId) (x0 : Addr) (x1 : Addr) (x2 : Addr) (x3 : Int32) : entryFrame m #[(.ref x0), (.ref x1), (.ref x2), (.int x3)] 4 = mkF m 0 #[SR x0, SR x1, SR x2, SI x3] [] := by first | (simp [entryFrame, mkF, argsToLocals, Value.category]; done) | rfl
def Q38 (Z : State) (a0_ : Addr) (a1_ : Addr) (a2_ : Addr) (p3 : Int32) (wm : Addr) (ed : Addr) (ke : ClassId) (y0 : Addr) (y1 : Addr) (y2 : Addr) (h0 : Heap) (n0 : Nat) (v : Option Value) (h : Heap) (L : List Loc) : Prop := ∃ (r : Addr) (re : Addr) (kr : ClassId), v = none ∧ Fr n0 L ∧ Keep h0 h [a0_] ∧ h0.size ≤ r ∧ h0.size ≤ re ∧ Exa Z h a0_ sq9 ∧ Fld Z h a0_ sq9 "plans" sq11 (.ref r) ∧ Fld Z h a0_ sq9 "selected" "I" (.int p3) ∧ Exa Z h r sq7 ∧ Fld Z h r sq7 "elements" sq2 (.ref re) ∧ Arv Z h re kr (.object sq1) (3 : Int32) [(.ref y0), (.ref y1), (.ref y2)] .null
theorem pn373 : plainName "com/example/count_calibrated_demand/countcalibrateddemand/Person" = true := by first | (simp [plainName, overriddenIn]; done) | decide +kernel
theorem rm38 (l : Launch) (Z : State) (a0 : Array Value) (hw : ∀ d ∈ tables_1, d.before a0 Z = true) (ws : List Jvm.Cond) (a0_ : Addr) (a1_ : Addr) (a2_ : Addr) (p3 : Int32) (wm : Addr) (ed : Addr) (ke : ClassId) (y0 : Addr) (y1 : Addr) (y2 : Addr) (h0 : Heap) (n0 : Nat) (O0 : Old Z n0 h0) (M_AO : MirM Z sq2 wm) (E0 : Exa Z h0 a0_ sq9) (g0 : n0 ≤ a0_) (F_i : Fld Z h0 a0_ sq9 "id" sq23 .null) (F_p : Fld Z h0 a0_ sq9 "plans" sq11 .null) (F_s : Fld Z h0 a0_ sq9 "selected" "I" (.int 0)) (E_l : Exa Z h0 a2_ sq0) (Fd_l : Fld Z h0 a2_ sq0 sq10 sq2 (.ref ed)) (Fs_l : Fld Z h0 a2_ sq0 "size" "I" (.int 3)) (Ed_l : Exa Z h0 ed sq2) (Vd_l : Arv Z h0 ed ke (.object sq1) (10 : Int32) [(.ref y0), (.ref y1), (.ref y2), .null] .null) (E_y0 : Exa Z h0 y0 sq4) (E_y1 : Exa Z h0 y1 sq4) (E_y2 : Exa Z h0 y2 sq4) (ne_a2_ : a2_ ≠ a0_) (ne_ed : ed ≠ a0_) (hcd0 : ¬ (p3 < (0 : Int32))) (hcd1 : p3 < (3 : Int32)) :
    Met l Z ws (⟨sq9, "<init>", sq49⟩ : MethodName) prog_45_method_1_code 4 none (Rm 9 3 8 116) #[(.ref a0_), (.ref a1_), (.ref a2_), (.int p3)] h0 (Q38 Z a0_ a1_ a2_ p3 wm ed ke y0 y1 y2 h0 n0) := by
  refine Met.enter (L0 := #[SR a0_, SR a1_, SR a2_, SI p3]) (plainFor_of_name pn373) (fun m => ef38 m a0_ a1_ a2_ p3) ?_
  intro p e s m below meth c s₁ hx hby hml hown hnm hret hlk hZ X0 e0
  have N0 := Fr.nil n0
  have Z0 := own_z0 O0
  have K0 : Keep h0 h0 [a0_] := Keep.refl h0 _
  refine Go.st (t' := s₁.setTop (mkF m 1 #[SR a0_, SR a1_, SR a2_, SI p3] [(.ref a0_)])) (fun target kt => ?_) ?_
  · refine XS.aloadN X0.here hx rfl (hb hby d38_0) rfl rfl ?_
    exact kt
  obtain ⟨T10, X10, e10, st10⟩ := initO X0 hx hZ hown (hw _ tw279) (hw _ tw24) (hw _ tw25) e0 (g := (mkF m 1 #[SR a0_, SR a1_, SR a2_, SI p3] [(.ref a0_)])) rfl (by rw [hml]; rfl) rfl (hb hby d38_1) (by decide) (W := 0) (by show 2 * 0 + _ ≤ _; exact Nat.le_of_eq rfl) (by decide)
  refine Go.st st10 ?_
  refine Go.st (t' := T10.setTop (mkF m 10 #[SR a0_, SR a1_, SR a2_, SI p3] [(.ref a2_), (.int p3)])) (fun target kt => ?_) ?_
  · refine XS.iloadN X10.here hx rfl (hb hby d38_4) rfl ?_
    refine XS.ifNo X10.here hx rfl (hb hby d38_5) rfl ((if0 _ _).trans (flt hcd0).1) ?_
    refine XS.iloadN X10.here hx rfl (hb hby d38_8) rfl ?_
    refine XS.aloadN X10.here hx rfl (hb hby d38_9) rfl rfl ?_
    exact kt
  refine Go.cps (own_cf (W := 1) (b := a2_) (argsL := []) (rest := [(.int p3)]) X10 hx hZ hown (hw _ tw280) (hw _ tw118) (hw _ tw119) (hw _ tw120) (hw _ tw121) (hw _ tw122) (hw _ tw123) (hw _ tw115) (hw _ tw124) (hw _ tw47) (by decide) e10 E_l (rm16 l Z a0 hw [] a2_ (3 : Int32) h0 n0 O0  Fs_l) rfl (by rw [hml]; rfl) (lenOf pd18 rfl) rfl (Nat.le_of_eq rfl) (hb hby d38_10) rfl (by decide)) ?_
  rintro T11 _ L11 X11 ⟨rfl, Nq11, eq11⟩
  have N11 := Fr.app N0 Nq11
  refine Go.st (t' := T11.setTop (mkF m 35 #[SR a0_, SR a1_, SR a2_, SI p3] [(.ref a1_), (.ref a0_)])) (fun target kt => ?_) ?_
  · refine XS.icmpYes X11.here hx rfl (pc0 := 15) (pc' := 33) rfl (hb hby d38_15) rfl (tlt hcd1).1 (by decide) (by decide) ?_
    refine XS.aloadN X11.here hx rfl (hb hby d38_33) rfl rfl ?_
    refine XS.aloadN X11.here hx rfl (hb hby d38_34) rfl rfl ?_
    exact kt
  obtain ⟨T12, h12, X12, e12, W12, st12⟩ := putF X11 hx hZ hown (host := "") (Or.inl (hw _ tw281)) Via.refl eq11 F_i E0 (Or.inr ⟨(hw _ tw282), rfl, hnm⟩) (hw _ tw273) (ty := (.object sq17)) (by decide) rfl rfl (g := (mkF m 35 #[SR a0_, SR a1_, SR a2_, SI p3] [(.ref a1_), (.ref a0_)])) rfl rfl (hb hby d38_35)
  have F13 : Fld Z h12 a0_ sq9 "id" sq23 (.ref a1_) := F_i.same W12
  have K14 := K0.wr W12 (Or.inl mI0)
  have O15 := O0.wr W12 g0
  have N12 := Fr.snoc X12 N11 g0
  refine Go.st st12 ?_
  refine Go.st (t' := T12.setTop (mkF m 40 #[SR a0_, SR a1_, SR a2_, SI p3] [(.ref a2_), (.ref a0_)])) (fun target kt => ?_) ?_
  · refine XS.aloadN X12.here hx rfl (hb hby d38_38) rfl rfl ?_
    refine XS.aloadN X12.here hx rfl (hb hby d38_39) rfl rfl ?_
    exact kt
  have c16 := E_l.keep K14
  have c17 := Fd_l.keep K14 (ninS ne_a2_ nin0)
  have c18 := Fs_l.keep K14 (ninS ne_a2_ nin0)
  have c19 := Ed_l.keep K14
  have c20 := Vd_l.keep K14 (ninS ne_ed nin0)
  have c21 := E_y0.keep K14
  have c22 := E_y1.keep K14
  have c23 := E_y2.keep K14
  refine Go.cps (own_cs (W := 1) (argsL := [(.ref a2_)]) (rest := [(.ref a0_)]) X12 hx hZ hown (hw _ tw283) (hw _ tw126) (hw _ tw128) (hw _ tw127) (by decide) e12 (rm17_3 l Z a0 hw [] a2_ wm ed ke y0 y1 y2 h12 n0 O15 M_AO c16 c17 c18 c19 c20 (Ins.of_exa c21 (hw _ tw271)) (Ins.of_exa c22 (hw _ tw271)) (Ins.of_exa c23 (hw _ tw271))) rfl (by rw [hml]; rfl) (lenOf pd11 rfl) rfl (Nat.le_of_eq rfl) (hb hby d38_40) rfl (by decide)) ?_
  rintro T24 _ L24 X24 ⟨b25, b26, k27, rfl, Nq24, Kq24, q28, q29, q30, q31, q32⟩
  have N24 := Fr.app N12 Nq24
  have sz33 : h0.size ≤ b25 := Nat.le_trans K14.1 q28
  have g34 : n0 ≤ b25 := Nat.le_trans Z0 sz33
  have sz35 : h0.size ≤ b26 := Nat.le_trans K14.1 q29
  have g36 : n0 ≤ b26 := Nat.le_trans Z0 sz35
  have K37 := K14.trans Kq24 all0
  have O38 := O15.keep Kq24 all0
  have c39 := (F_p.other W12 (Or.inr (slot_ne (Or.inr (hw _ tw285)) (Or.inr (hw _ tw282)) (by decide) (t := (.object sq3)) (t' := (.object sq17)) (by decide) (by decide)))).keep Kq24 nin0
  have c40 := E0.keep K37
  obtain ⟨T41, h41, X41, e41, W41, st41⟩ := putF X24 hx hZ hown (host := "") (Or.inl (hw _ tw284)) Via.refl rfl c39 c40 (Or.inr ⟨(hw _ tw285), rfl, hnm⟩) (hw _ tw273) (ty := (.object sq3)) (by decide) rfl rfl (g := (mkF m 43 #[SR a0_, SR a1_, SR a2_, SI p3] [(.ref b25), (.ref a0_)])) rfl rfl (hb hby d38_43)
  have F42 : Fld Z h41 a0_ sq9 "plans" sq11 (.ref b25) := c39.same W41
  have K43 := K37.wr W41 (Or.inl mI0)
  have O44 := O38.wr W41 g0
  have N41 := Fr.snoc X41 N24 g0
  refine Go.st st41 ?_
  refine Go.st (t' := T41.setTop (mkF m 48 #[SR a0_, SR a1_, SR a2_, SI p3] [(.int p3), (.ref a0_)])) (fun target kt => ?_) ?_
  · refine XS.aloadN X41.here hx rfl (hb hby d38_46) rfl rfl ?_
    refine XS.iloadN X41.here hx rfl (hb hby d38_47) rfl ?_
    exact kt
  have c45 := ((F_s.other W12 (Or.inr (slot_ne (Or.inr (hw _ tw287)) (Or.inr (hw _ tw282)) (by decide) (t := .int) (t' := (.object sq17)) (by decide) (by decide)))).keep Kq24 nin0).other W41 (Or.inr (slot_ne (Or.inr (hw _ tw287)) (Or.inr (hw _ tw285)) (by decide) (t := .int) (t' := (.object sq3)) (by decide) (by decide)))
  have c46 := c40.wr W41
  obtain ⟨T47, h47, X47, e47, W47, st47⟩ := putF X41 hx hZ hown (host := "") (Or.inl (hw _ tw286)) Via.refl e41 c45 c46 (Or.inr ⟨(hw _ tw287), rfl, hnm⟩) (hw _ tw273) (ty := .int) (by decide) rfl rfl (g := (mkF m 48 #[SR a0_, SR a1_, SR a2_, SI p3] [(.int p3), (.ref a0_)])) rfl rfl (hb hby d38_48)
  have F48 : Fld Z h47 a0_ sq9 "selected" "I" (.int p3) := c45.same W47
  have K49 := K43.wr W47 (Or.inl mI0)
  have O50 := O44.wr W47 g0
  have N47 := Fr.snoc X47 N41 g0
  refine Go.st st47 ?_
  have c51 := c46.wr W47
  have c52 := F42.other W47 (Or.inr (slot_ne (Or.inr (hw _ tw285)) (Or.inr (hw _ tw287)) (by decide) (t := (.object sq3)) (t' := .int) (by decide) (by decide)))
  have S_53 : Keep T24.heap h47 [a0_] := (((Keep.refl T24.heap [a0_]).wr W41 (Or.inl mI0)).wr W47 (Or.inl mI0))
  have c54 := q30.keep S_53
  have o55 : a0_ < b25 := Nat.lt_of_lt_of_le E0.lt (Nat.le_trans (Keep.of_wr W12).1 q28)
  have ne56 : a0_ ≠ b25 := Nat.ne_of_lt o55
  have c57 := q31.keep S_53 (ninS (Ne.symm ne56) nin0)
  have o58 : a0_ < b26 := Nat.lt_of_lt_of_le E0.lt (Nat.le_trans (Keep.of_wr W12).1 q29)
  have ne59 : a0_ ≠ b26 := Nat.ne_of_lt o58
  have c60 := q32.keep S_53 (ninS (Ne.symm ne59) nin0)
  refine Go.ret X47 (v := none) (fun _ => rfl) hlk (fun fs hr => X47.returnOut hx hret (hb hby d38_51) hr) ?_ (by decide) (by decide)
  show Q38 Z a0_ a1_ a2_ p3 wm ed ke y0 y1 y2 h0 n0 _ T47.heap _
  rw [e47]
  exact ⟨b25, b26, k27, rfl, N47, K49, (by first | assumption | decide | omega), (by first | assumption | decide | omega), c51, c52, F48, c54, c57, c60⟩
theorem d42_0 : decode zc32 0 = .ok (.aload_n 0, 1) := by decide +kernel
theorem d42_1 : decode zc32 1 = .ok (.getfield 7, 3) := by decide +kernel
theorem d42_4 : decode zc32 4 = .ok (.iload_n 1, 1) := by decide +kernel
theorem d42_5 : decode zc32 5 = .ok (.aaload, 1) := by decide +kernel
theorem d42_6 : decode zc32 6 = .ok (.areturn, 1) := by decide +kernel
def Q42_0 (Z : State) (r : Addr) (re : Addr) (kr : ClassId) (y0 : Addr) (y1 : Addr) (y2 : Addr) (h0 : Heap) (n0 : Nat) (v : Option Value) (h : Heap) (L : List Loc) : Prop := v = some (.ref y0) ∧ Fr n0 L ∧ h = h0
theorem rm42_0 (l : Launch) (Z : State) (a0 : Array Value) (hw : ∀ d ∈ tables_1, d.before a0 Z = true) (ws : List Jvm.Cond) (r : Addr) (re : Addr) (kr : ClassId) (y0 : Addr) (y1 : Addr) (y2 : Addr) (h0 : Heap) (n0 : Nat) (O0 : Old Z n0 h0) (E_r : Exa Z h0 r sq7) (F_r : Fld Z h0 r sq7 "elements" sq2 (.ref re)) (V_re : Arv Z h0 re kr (.object sq1) (3 : Int32) [(.ref y0), (.ref y1), (.ref y2)] .null) :
    Met l Z ws mm16 jdk_45_method_4_code 2 (some (.object sq1)) (Rm 0 0 0 0) #[(.ref r), (.int 0)] h0 (Q42_0 Z r re kr y0 y1 y2 h0 n0) := by
  refine Met.enter (L0 := #[SR r, SI 0]) (plainFor_of_name pn203) (fun m => ef33_0_1 m r) ?_
  intro p e s m below meth c s₁ hx hby hml hown hnm hret hlk hZ X0 e0
  have N0 := Fr.nil n0
  have Z0 := own_z0 O0
  have K0 : Keep h0 h0 [] := Keep.refl h0 _
  refine Go.st (t' := s₁.setTop (mkF m 1 #[SR r, SI 0] [(.ref r)])) (fun target kt => ?_) ?_
  · refine XS.aloadN X0.here hx rfl (hb hby d42_0) rfl rfl ?_
    exact kt
  obtain ⟨T10, X10, e10, st10⟩ := getF X0 hx hZ hown (host := "") (Or.inl (hw _ tw267)) Via.refl e0 F_r (g := (mkF m 1 #[SR r, SI 0] [(.ref r)])) rfl rfl (hb hby d42_1)
  refine Go.st st10 ?_
  obtain ⟨cl11, Ar11, -, S11, M11, H11, -⟩ := id V_re
  have hin11 : ¬ ((0 : Int32) < 0 ∨ cl11.slots.size ≤ ((0 : Int32)).toNatClampNeg) := inb_of S11 ⟨by decide, by decide⟩
  have hat11 : cl11.slots[((0 : Int32)).toNatClampNeg]? = some (.ref y0) := H11.at hin11 rfl
  refine Go.st (t' := T10.setTop (mkF m 6 #[SR r, SI 0] [(.ref y0)])) (fun target kt => ?_) ?_
  · refine XS.iloadN X10.here hx rfl (hb hby d42_4) rfl ?_
    refine X10.aaload hx (j := (0 : Int32)) (v := (.ref y0)) (by rw [e10]; exact Ar11.1) (State.isArrayOf_alike hZ.alike Ar11.2.1) rfl Ar11.2.2 hin11 hat11 (g := (mkF m 5 #[SR r, SI 0] [(.int 0), (.ref re)])) rfl rfl (hb hby d42_5) _ ?_
    exact kt
  refine Go.ret X10 (v := some (.ref y0)) (fun h => by rw [hret] at h; cases h) hlk (fun fs hr => retR X10 hx hret rfl rfl (hb hby d42_6) hr) ?_ (by decide) (by decide)
  show Q42_0 Z r re kr y0 y1 y2 h0 n0 _ T10.heap _
  rw [e10]
  exact ⟨rfl, N0, rfl⟩
def Q42_1 (Z : State) (r : Addr) (re : Addr) (kr : ClassId) (y0 : Addr) (y1 : Addr) (y2 : Addr) (h0 : Heap) (n0 : Nat) (v : Option Value) (h : Heap) (L : List Loc) : Prop := v = some (.ref y1) ∧ Fr n0 L ∧ h = h0
theorem rm42_1 (l : Launch) (Z : State) (a0 : Array Value) (hw : ∀ d ∈ tables_1, d.before a0 Z = true) (ws : List Jvm.Cond) (r : Addr) (re : Addr) (kr : ClassId) (y0 : Addr) (y1 : Addr) (y2 : Addr) (h0 : Heap) (n0 : Nat) (O0 : Old Z n0 h0) (E_r : Exa Z h0 r sq7) (F_r : Fld Z h0 r sq7 "elements" sq2 (.ref re)) (V_re : Arv Z h0 re kr (.object sq1) (3 : Int32) [(.ref y0), (.ref y1), (.ref y2)] .null) :
    Met l Z ws mm16 jdk_45_method_4_code 2 (some (.object sq1)) (Rm 0 0 0 0) #[(.ref r), (.int 1)] h0 (Q42_1 Z r re kr y0 y1 y2 h0 n0) := by
  refine Met.enter (L0 := #[SR r, SI 1]) (plainFor_of_name pn203) (fun m => ef33_1_2 m r) ?_
  intro p e s m below meth c s₁ hx hby hml hown hnm hret hlk hZ X0 e0
  have N0 := Fr.nil n0
  have Z0 := own_z0 O0
  have K0 : Keep h0 h0 [] := Keep.refl h0 _
  refine Go.st (t' := s₁.setTop (mkF m 1 #[SR r, SI 1] [(.ref r)])) (fun target kt => ?_) ?_
  · refine XS.aloadN X0.here hx rfl (hb hby d42_0) rfl rfl ?_
    exact kt
  obtain ⟨T10, X10, e10, st10⟩ := getF X0 hx hZ hown (host := "") (Or.inl (hw _ tw267)) Via.refl e0 F_r (g := (mkF m 1 #[SR r, SI 1] [(.ref r)])) rfl rfl (hb hby d42_1)
  refine Go.st st10 ?_
  obtain ⟨cl11, Ar11, -, S11, M11, H11, -⟩ := id V_re
  have hin11 : ¬ ((1 : Int32) < 0 ∨ cl11.slots.size ≤ ((1 : Int32)).toNatClampNeg) := inb_of S11 ⟨by decide, by decide⟩
  have hat11 : cl11.slots[((1 : Int32)).toNatClampNeg]? = some (.ref y1) := H11.at hin11 rfl
  refine Go.st (t' := T10.setTop (mkF m 6 #[SR r, SI 1] [(.ref y1)])) (fun target kt => ?_) ?_
  · refine XS.iloadN X10.here hx rfl (hb hby d42_4) rfl ?_
    refine X10.aaload hx (j := (1 : Int32)) (v := (.ref y1)) (by rw [e10]; exact Ar11.1) (State.isArrayOf_alike hZ.alike Ar11.2.1) rfl Ar11.2.2 hin11 hat11 (g := (mkF m 5 #[SR r, SI 1] [(.int 1), (.ref re)])) rfl rfl (hb hby d42_5) _ ?_
    exact kt
  refine Go.ret X10 (v := some (.ref y1)) (fun h => by rw [hret] at h; cases h) hlk (fun fs hr => retR X10 hx hret rfl rfl (hb hby d42_6) hr) ?_ (by decide) (by decide)
  show Q42_1 Z r re kr y0 y1 y2 h0 n0 _ T10.heap _
  rw [e10]
  exact ⟨rfl, N0, rfl⟩
def Q42_2 (Z : State) (r : Addr) (re : Addr) (kr : ClassId) (y0 : Addr) (y1 : Addr) (y2 : Addr) (h0 : Heap) (n0 : Nat) (v : Option Value) (h : Heap) (L : List Loc) : Prop := v = some (.ref y2) ∧ Fr n0 L ∧ h = h0
theorem rm42_2 (l : Launch) (Z : State) (a0 : Array Value) (hw : ∀ d ∈ tables_1, d.before a0 Z = true) (ws : List Jvm.Cond) (r : Addr) (re : Addr) (kr : ClassId) (y0 : Addr) (y1 : Addr) (y2 : Addr) (h0 : Heap) (n0 : Nat) (O0 : Old Z n0 h0) (E_r : Exa Z h0 r sq7) (F_r : Fld Z h0 r sq7 "elements" sq2 (.ref re)) (V_re : Arv Z h0 re kr (.object sq1) (3 : Int32) [(.ref y0), (.ref y1), (.ref y2)] .null) :
    Met l Z ws mm16 jdk_45_method_4_code 2 (some (.object sq1)) (Rm 0 0 0 0) #[(.ref r), (.int 2)] h0 (Q42_2 Z r re kr y0 y1 y2 h0 n0) := by
  refine Met.enter (L0 := #[SR r, SI 2]) (plainFor_of_name pn203) (fun m => ef33_2_3 m r) ?_
  intro p e s m below meth c s₁ hx hby hml hown hnm hret hlk hZ X0 e0
  have N0 := Fr.nil n0
  have Z0 := own_z0 O0
  have K0 : Keep h0 h0 [] := Keep.refl h0 _
  refine Go.st (t' := s₁.setTop (mkF m 1 #[SR r, SI 2] [(.ref r)])) (fun target kt => ?_) ?_
  · refine XS.aloadN X0.here hx rfl (hb hby d42_0) rfl rfl ?_
    exact kt
  obtain ⟨T10, X10, e10, st10⟩ := getF X0 hx hZ hown (host := "") (Or.inl (hw _ tw267)) Via.refl e0 F_r (g := (mkF m 1 #[SR r, SI 2] [(.ref r)])) rfl rfl (hb hby d42_1)
  refine Go.st st10 ?_
  obtain ⟨cl11, Ar11, -, S11, M11, H11, -⟩ := id V_re
  have hin11 : ¬ ((2 : Int32) < 0 ∨ cl11.slots.size ≤ ((2 : Int32)).toNatClampNeg) := inb_of S11 ⟨by decide, by decide⟩
  have hat11 : cl11.slots[((2 : Int32)).toNatClampNeg]? = some (.ref y2) := H11.at hin11 rfl
  refine Go.st (t' := T10.setTop (mkF m 6 #[SR r, SI 2] [(.ref y2)])) (fun target kt => ?_) ?_
  · refine XS.iloadN X10.here hx rfl (hb hby d42_4) rfl ?_
    refine X10.aaload hx (j := (2 : Int32)) (v := (.ref y2)) (by rw [e10]; exact Ar11.1) (State.isArrayOf_alike hZ.alike Ar11.2.1) rfl Ar11.2.2 hin11 hat11 (g := (mkF m 5 #[SR r, SI 2] [(.int 2), (.ref re)])) rfl rfl (hb hby d42_5) _ ?_
    exact kt
  refine Go.ret X10 (v := some (.ref y2)) (fun h => by rw [hret] at h; cases h) hlk (fun fs hr => retR X10 hx hret rfl rfl (hb hby d42_6) hr) ?_ (by decide) (by decide)
  show Q42_2 Z r re kr y0 y1 y2 h0 n0 _ T10.heap _
  rw [e10]
  exact ⟨rfl, N0, rfl⟩
theorem d43_0 : decode zc42 0 = .ok (.aload_n 0, 1) := by decide +kernel
theorem d43_1 : decode zc42 1 = .ok (.getfield 51, 3) := by decide +kernel
theorem d43_4 : decode zc42 4 = .ok (.areturn, 1) := by decide +kernel
def Q43 (Z : State) (a0_ : Addr) (l_ : Addr) (h0 : Heap) (n0 : Nat) (v : Option Value) (h : Heap) (L : List Loc) : Prop := v = some (.ref l_) ∧ Fr n0 L ∧ h = h0
theorem rm43 (l : Launch) (Z : State) (a0 : Array Value) (hw : ∀ d ∈ tables_1, d.before a0 Z = true) (ws : List Jvm.Cond) (a0_ : Addr) (l_ : Addr) (h0 : Heap) (n0 : Nat) (O0 : Old Z n0 h0) (F_l : Fld Z h0 a0_ sq4 "legs" sq11 (.ref l_)) :
    Met l Z ws (⟨sq4, "legs", sq25⟩ : MethodName) prog_46_method_4_code 1 (some (.object sq3)) (Rm 0 0 0 0) #[(.ref a0_)] h0 (Q43 Z a0_ l_ h0 n0) := by
  refine Met.enter (L0 := #[SR a0_]) (plainFor_of_name pn343) (fun m => ef3 m a0_) ?_
  intro p e s m below meth c s₁ hx hby hml hown hnm hret hlk hZ X0 e0
  have N0 := Fr.nil n0
  have Z0 := own_z0 O0
  have K0 : Keep h0 h0 [] := Keep.refl h0 _
  refine Go.st (t' := s₁.setTop (mkF m 1 #[SR a0_] [(.ref a0_)])) (fun target kt => ?_) ?_
  · refine XS.aloadN X0.here hx rfl (hb hby d43_0) rfl rfl ?_
    exact kt
  obtain ⟨T10, X10, e10, st10⟩ := getF X0 hx hZ hown (host := "") (Or.inl (hw _ tw213)) Via.refl e0 F_l (g := (mkF m 1 #[SR a0_] [(.ref a0_)])) rfl rfl (hb hby d43_1)
  refine Go.st st10 ?_
  refine Go.ret X10 (v := some (.ref l_)) (fun h => by rw [hret] at h; cases h) hlk (fun fs hr => retR X10 hx hret rfl rfl (hb hby d43_4) hr) ?_ (by decide) (by decide)
  show Q43 Z a0_ l_ h0 n0 _ T10.heap _
  rw [e10]
  exact ⟨rfl, N0, rfl⟩
theorem d46_0 : decode zc34 0 = .ok (.aload_n 0, 1) := by decide +kernel
theorem d46_1 : decode zc34 1 = .ok (.getfield 7, 3) := by decide +kernel
theorem d46_4 : decode zc34 4 = .ok (.arraylength, 1) := by decide +kernel
theorem d46_5 : decode zc34 5 = .ok (.ireturn, 1) := by decide +kernel
def Q46 (Z : State) (wl : Addr) (wle : Addr) (kle : ClassId) (h0 : Heap) (n0 : Nat) (v : Option Value) (h : Heap) (L : List Loc) : Prop := v = some (.int 0) ∧ Fr n0 L ∧ h = h0
theorem rm46 (l : Launch) (Z : State) (a0 : Array Value) (hw : ∀ d ∈ tables_1, d.before a0 Z = true) (ws : List Jvm.Cond) (wl : Addr) (wle : Addr) (kle : ClassId) (h0 : Heap) (n0 : Nat) (O0 : Old Z n0 h0) (F_wl : Fld Z Z.heap wl sq7 "elements" sq2 (.ref wle)) (V_wle : Arv Z Z.heap wle kle (.object sq1) (0 : Int32) [] .null) :
    Met l Z ws (⟨sq7, "size", "()I"⟩ : MethodName) jdk_45_method_3_code 1 (some .int) (Rm 0 0 0 0) #[(.ref wl)] h0 (Q46 Z wl wle kle h0 n0) := by
  refine Met.enter (L0 := #[SR wl]) (plainFor_of_name pn203) (fun m => ef3 m wl) ?_
  intro p e s m below meth c s₁ hx hby hml hown hnm hret hlk hZ X0 e0
  have N0 := Fr.nil n0
  have Z0 := own_z0 O0
  have K0 : Keep h0 h0 [] := Keep.refl h0 _
  refine Go.st (t' := s₁.setTop (mkF m 1 #[SR wl] [(.ref wl)])) (fun target kt => ?_) ?_
  · refine XS.aloadN X0.here hx rfl (hb hby d46_0) rfl rfl ?_
    exact kt
  obtain ⟨T10, X10, e10, st10⟩ := getF X0 hx hZ hown (host := "") (Or.inl (hw _ tw267)) Via.refl e0 (F_wl.ext O0.2) (g := (mkF m 1 #[SR wl] [(.ref wl)])) rfl rfl (hb hby d46_1)
  refine Go.st st10 ?_
  obtain ⟨cl11, Ar11, -, S11, M11, -, -⟩ := id (V_wle.ext O0.2)
  refine Go.st (t' := T10.setTop (mkF m 5 #[SR wl] [(.int 0)])) (fun target kt => ?_) ?_
  · refine X10.arraylength hx (by rw [e10]; exact Ar11.1) (State.isArrayOf_alike hZ.alike Ar11.2.1) (g := (mkF m 4 #[SR wl] [(.ref wle)])) rfl rfl (hb hby d46_4) _ ?_
    rw [len_of S11 M11]
    exact kt
  refine Go.ret X10 (v := some (.int 0)) (fun h => by rw [hret] at h; cases h) hlk (fun fs hr => retI X10 hx hret (hb hby d46_5) hr) ?_ (by decide) (by decide)
  show Q46 Z wl wle kle h0 n0 _ T10.heap _
  rw [e10]
  exact ⟨rfl, N0, rfl⟩
theorem d44_0 : decode zc18 0 = .ok (.aload_n 0, 1) := by decide +kernel
theorem d44_1 : decode zc18 1 = .ok (.getfield 24, 3) := by decide +kernel
theorem d44_4 : decode zc18 4 = .ok (.getstatic 19, 3) := by decide +kernel
theorem d44_7 : decode zc18 7 = .ok (.if_acmp .eq 7, 3) := by decide +kernel
theorem d44_14 : decode zc18 14 = .ok (.iconst 1, 1) := by decide +kernel
theorem d44_15 : decode zc18 15 = .ok (.ireturn, 1) := by decide +kernel
def Q44_1 (Z : State) (a0_ : Addr) (we : Addr) (h0 : Heap) (n0 : Nat) (v : Option Value) (h : Heap) (L : List Loc) : Prop := v = some (.int 1) ∧ Fr n0 L ∧ h = h0
theorem rm44_1 (l : Launch) (Z : State) (a0 : Array Value) (hw : ∀ d ∈ tables_1, d.before a0 Z = true) (ws : List Jvm.Cond) (a0_ : Addr) (we : Addr) (h0 : Heap) (n0 : Nat) (O0 : Old Z n0 h0) (S_EM : Sta Z Z.heap sq14 "EMPTY" sq12 (.ref we)) (F_1 : Fld Z h0 a0_ sq6 "e1" sq12 (.ref we)) :
    Met l Z ws mm18 jdk_44_method_3_code 1 (some .int) (Rm 0 0 0 0) #[(.ref a0_)] h0 (Q44_1 Z a0_ we h0 n0) := by
  refine Met.enter (L0 := #[SR a0_]) (plainFor_of_name pn182) (fun m => ef3 m a0_) ?_
  intro p e s m below meth c s₁ hx hby hml hown hnm hret hlk hZ X0 e0
  have N0 := Fr.nil n0
  have Z0 := own_z0 O0
  have K0 : Keep h0 h0 [] := Keep.refl h0 _
  refine Go.st (t' := s₁.setTop (mkF m 1 #[SR a0_] [(.ref a0_)])) (fun target kt => ?_) ?_
  · refine XS.aloadN X0.here hx rfl (hb hby d44_0) rfl rfl ?_
    exact kt
  obtain ⟨T10, X10, e10, st10⟩ := getF X0 hx hZ hown (host := "") (Or.inl (hw _ tw205)) Via.refl e0 F_1 (g := (mkF m 1 #[SR a0_] [(.ref a0_)])) rfl rfl (hb hby d44_1)
  refine Go.st st10 ?_
  obtain ⟨T11, X11, e11, st11⟩ := getS2 X10 hx hZ hown (Or.inr (hw _ tw204)) Via.refl e10 (S_EM.ext O0.2) (g := (mkF m 4 #[SR a0_] [(.ref we)])) rfl (hb hby d44_4)
  refine Go.st st11 ?_
  refine Go.st (t' := T11.setTop (mkF m 15 #[SR a0_] [(.int 1)])) (fun target kt => ?_) ?_
  · refine Jvm.RoadKit.acmp (g := (mkF m 7 #[SR a0_] [(.ref we), (.ref we)])) X11 hx rfl rfl rfl (pc0 := 7) (pc' := 14) (same := true) rfl (hb hby d44_7) rfl (decide_eq_true rfl) (by decide) (by decide) ?_
    refine XS.iconst X11.here hx rfl (hb hby d44_14) ?_
    exact kt
  refine Go.ret X11 (v := some (.int 1)) (fun h => by rw [hret] at h; cases h) hlk (fun fs hr => retI X11 hx hret (hb hby d44_15) hr) ?_ (by decide) (by decide)
  show Q44_1 Z a0_ we h0 n0 _ T11.heap _
  rw [e11]
  exact ⟨rfl, N0, rfl⟩
theorem d44_10 : decode zc18 10 = .ok (.iconst 2, 1) := by decide +kernel
theorem d44_11 : decode zc18 11 = .ok (.goto 4, 3) := by decide +kernel
def Q44_2 (Z : State) (a0_ : Addr) (we : Addr) (x1 : Addr) (h0 : Heap) (n0 : Nat) (v : Option Value) (h : Heap) (L : List Loc) : Prop := v = some (.int 2) ∧ Fr n0 L ∧ h = h0
theorem rm44_2 (l : Launch) (Z : State) (a0 : Array Value) (hw : ∀ d ∈ tables_1, d.before a0 Z = true) (ws : List Jvm.Cond) (a0_ : Addr) (we : Addr) (x1 : Addr) (h0 : Heap) (n0 : Nat) (O0 : Old Z n0 h0) (S_EM : Sta Z Z.heap sq14 "EMPTY" sq12 (.ref we)) (F_1 : Fld Z h0 a0_ sq6 "e1" sq12 (.ref x1)) (ne : x1 ≠ we) :
    Met l Z ws mm18 jdk_44_method_3_code 1 (some .int) (Rm 0 0 0 0) #[(.ref a0_)] h0 (Q44_2 Z a0_ we x1 h0 n0) := by
  refine Met.enter (L0 := #[SR a0_]) (plainFor_of_name pn182) (fun m => ef3 m a0_) ?_
  intro p e s m below meth c s₁ hx hby hml hown hnm hret hlk hZ X0 e0
  have N0 := Fr.nil n0
  have Z0 := own_z0 O0
  have K0 : Keep h0 h0 [] := Keep.refl h0 _
  refine Go.st (t' := s₁.setTop (mkF m 1 #[SR a0_] [(.ref a0_)])) (fun target kt => ?_) ?_
  · refine XS.aloadN X0.here hx rfl (hb hby d44_0) rfl rfl ?_
    exact kt
  obtain ⟨T10, X10, e10, st10⟩ := getF X0 hx hZ hown (host := "") (Or.inl (hw _ tw205)) Via.refl e0 F_1 (g := (mkF m 1 #[SR a0_] [(.ref a0_)])) rfl rfl (hb hby d44_1)
  refine Go.st st10 ?_
  obtain ⟨T11, X11, e11, st11⟩ := getS2 X10 hx hZ hown (Or.inr (hw _ tw204)) Via.refl e10 (S_EM.ext O0.2) (g := (mkF m 4 #[SR a0_] [(.ref x1)])) rfl (hb hby d44_4)
  refine Go.st st11 ?_
  refine Go.st (t' := T11.setTop (mkF m 15 #[SR a0_] [(.int 2)])) (fun target kt => ?_) ?_
  · refine Jvm.RoadKit.acmp (g := (mkF m 7 #[SR a0_] [(.ref we), (.ref x1)])) X11 hx rfl rfl rfl (pc0 := 7) (pc' := 10) (same := false) rfl (hb hby d44_7) rfl (decide_eq_false fun q => ne (Value.ref.inj q)) (by decide) (by decide) ?_
    refine XS.iconst X11.here hx rfl (hb hby d44_10) ?_
    refine XS.goto X11.here hx rfl (pc0 := 11) (pc' := 15) rfl (hb hby d44_11) (by decide) (by decide) ?_
    exact kt
  refine Go.ret X11 (v := some (.int 2)) (fun h => by rw [hret] at h; cases h) hlk (fun fs hr => retI X11 hx hret (hb hby d44_15) hr) ?_ (by decide) (by decide)
  show Q44_2 Z a0_ we x1 h0 n0 _ T11.heap _
  rw [e11]
  exact ⟨rfl, N0, rfl⟩
theorem d45_0 : decode zc12 0 = .ok (.iconst 0, 1) := by decide +kernel
theorem d45_1 : decode zc12 1 = .ok (.istore_n 2, 1) := by decide +kernel
theorem d45_2 : decode zc12 2 = .ok (.aload_n 0, 1) := by decide +kernel
theorem d45_3 : decode zc12 3 = .ok (.arraylength, 1) := by decide +kernel
theorem d45_4 : decode zc12 4 = .ok (.istore_n 3, 1) := by decide +kernel
theorem d45_5 : decode zc12 5 = .ok (.iload_n 2, 1) := by decide +kernel
theorem d45_6 : decode zc12 6 = .ok (.iload_n 3, 1) := by decide +kernel
theorem d45_7 : decode zc12 7 = .ok (.if_icmp .ge 13, 3) := by decide +kernel
theorem d45_20 : decode zc12 20 = .ok (.return_, 1) := by decide +kernel
theorem d45_10 : decode zc12 10 = .ok (.aload_n 0, 1) := by decide +kernel
theorem d45_11 : decode zc12 11 = .ok (.iload_n 2, 1) := by decide +kernel
theorem d45_12 : decode zc12 12 = .ok (.iload_n 1, 1) := by decide +kernel
theorem d45_13 : decode zc12 13 = .ok (.iastore, 1) := by decide +kernel
theorem d45_14 : decode zc12 14 = .ok (.iinc 2 1, 3) := by decide +kernel
theorem d45_17 : decode zc12 17 = .ok (.goto (-12), 3) := by decide +kernel
theorem ef45 (m : MethodId) (x0 : Addr) : entryFrame m #[(.ref x0), (.int (-1))] 4 = mkF m 0 #[SR x0, SI (-1), .unset, .unset] [] := by first | (simp [entryFrame, mkF, argsToLocals, Value.category]; done) | rfl
def Q45 (Z : State) (a0_ : Addr) (ka : ClassId) (k : Int32) (h0 : Heap) (n0 : Nat) (v : Option Value) (h : Heap) (L : List Loc) : Prop := ∃ (c_ : Cell), v = none ∧ Fr n0 L ∧ Keep h0 h [a0_] ∧ Arr Z h a0_ c_ .int ∧ c_.slots.size = k.toNatClampNeg
theorem rm45 (l : Launch) (Z : State) (a0 : Array Value) (hw : ∀ d ∈ tables_1, d.before a0 Z = true) (ws : List Jvm.Cond) (a0_ : Addr) (ka : ClassId) (k : Int32) (h0 : Heap) (n0 : Nat) (O0 : Old Z n0 h0) (V_a : Arv Z h0 a0_ ka .int k [] (.int 0)) (ga : n0 ≤ a0_) (hk0 : ¬ k < 0) (hk2 : k < (3 : Int32)) :
    Met l Z ws (⟨sq19, "fill", "([II)V"⟩ : MethodName) jdk_65_method_103_code 4 none (Rm 0 0 0 0) #[(.ref a0_), (.int (-1))] h0 (Q45 Z a0_ ka k h0 n0) := by
  refine Met.enter (L0 := #[SR a0_, SI (-1), .unset, .unset]) (plainFor_of_name pn248) (fun m => ef45 m a0_) ?_
  intro p e s m below meth c s₁ hx hby hml hown hnm hret hlk hZ X0 e0
  have N0 := Fr.nil n0
  have Z0 := own_z0 O0
  have K0 : Keep h0 h0 [a0_] := Keep.refl h0 _
  rcases own_le2 hk0 hk2 with hk | hk | hk
  · have Vq := V_a
    rw [hk] at Vq
    have Vp : Arv Z h0 a0_ ka .int (0 : Int32) [] (.int 0) := Vq.pad (pad_rep [] (.int 0) 0)
    obtain ⟨cl10, Ar10, -, S10, M10, -, -⟩ := id Vp
    refine Go.st (t' := s₁.setTop (mkF m 20 #[SR a0_, SI (-1), SI 0, SI 0] [])) (fun target kt => ?_) ?_
    · refine XS.iconst X0.here hx rfl (hb hby d45_0) ?_
      refine XS.istoreN X0.here hx rfl (hb hby d45_1) rfl (l' := #[SR a0_, SI (-1), SI 0, .unset]) rfl ?_
      refine XS.aloadN X0.here hx rfl (hb hby d45_2) rfl rfl ?_
      refine X0.arraylength hx (by rw [e0]; exact Ar10.1) (State.isArrayOf_alike hZ.alike Ar10.2.1) (g := (mkF m 3 #[SR a0_, SI (-1), SI 0, .unset] [(.ref a0_)])) rfl rfl (hb hby d45_3) _ ?_
      rw [len_of S10 M10]
      refine XS.istoreN X0.here hx rfl (hb hby d45_4) rfl (l' := #[SR a0_, SI (-1), SI 0, SI 0]) rfl ?_
      refine XS.iloadN X0.here hx rfl (hb hby d45_5) rfl ?_
      refine XS.iloadN X0.here hx rfl (hb hby d45_6) rfl ?_
      refine XS.icmpYes X0.here hx rfl (pc0 := 7) (pc' := 20) rfl (hb hby d45_7) rfl (flt (by decide : ¬ ((0 : Int32) < (0 : Int32)))).2.1 (by decide) (by decide) ?_
      exact kt
    obtain ⟨cf, Af, -, Sf, -, -, -⟩ := id Vp
    refine Go.ret X0 (v := none) (fun _ => rfl) hlk (fun fs hr => X0.returnOut hx hret (hb hby d45_20) hr) ?_ (by decide) (by decide)
    show Q45 Z a0_ ka k h0 n0 _ s₁.heap _
    rw [e0]
    exact ⟨cf, rfl, N0, K0, Af, (by rw [hk]; exact Sf)⟩
  · have Vq := V_a
    rw [hk] at Vq
    have Vp : Arv Z h0 a0_ ka .int (1 : Int32) [(.int 0)] (.int 0) := Vq.pad (pad_rep [] (.int 0) 1)
    obtain ⟨cl11, Ar11, -, S11, M11, -, -⟩ := id Vp
    refine Go.st (t' := s₁.setTop (mkF m 13 #[SR a0_, SI (-1), SI 0, SI 1] [(.int (-1)), (.int 0), (.ref a0_)])) (fun target kt => ?_) ?_
    · refine XS.iconst X0.here hx rfl (hb hby d45_0) ?_
      refine XS.istoreN X0.here hx rfl (hb hby d45_1) rfl (l' := #[SR a0_, SI (-1), SI 0, .unset]) rfl ?_
      refine XS.aloadN X0.here hx rfl (hb hby d45_2) rfl rfl ?_
      refine X0.arraylength hx (by rw [e0]; exact Ar11.1) (State.isArrayOf_alike hZ.alike Ar11.2.1) (g := (mkF m 3 #[SR a0_, SI (-1), SI 0, .unset] [(.ref a0_)])) rfl rfl (hb hby d45_3) _ ?_
      rw [len_of S11 M11]
      refine XS.istoreN X0.here hx rfl (hb hby d45_4) rfl (l' := #[SR a0_, SI (-1), SI 0, SI 1]) rfl ?_
      refine XS.iloadN X0.here hx rfl (hb hby d45_5) rfl ?_
      refine XS.iloadN X0.here hx rfl (hb hby d45_6) rfl ?_
      refine XS.icmpNo X0.here hx rfl (hb hby d45_7) rfl (tlt (by decide : (0 : Int32) < (1 : Int32))).2.1 ?_
      refine XS.aloadN X0.here hx rfl (hb hby d45_10) rfl rfl ?_
      refine XS.iloadN X0.here hx rfl (hb hby d45_11) rfl ?_
      refine XS.iloadN X0.here hx rfl (hb hby d45_12) rfl ?_
      exact kt
    obtain ⟨cl12, Ar12, q12, S12, M12, H12, G12⟩ := id Vp
    have hin12 : ¬ ((0 : Int32) < 0 ∨ cl12.slots.size ≤ ((0 : Int32)).toNatClampNeg) := inb_of S12 ⟨by decide, by decide⟩
    obtain ⟨T12, h12, X12, e12, W12, st12⟩ := stI X0 hx hZ e0 Ar12 (j := (0 : Int32)) hin12 (g := (mkF m 13 #[SR a0_, SI (-1), SI 0, SI 1] [(.int (-1)), (.int 0), (.ref a0_)])) rfl rfl (hb hby d45_13)
    have V13 : Arv Z h12 a0_ ka .int (1 : Int32) [(.int (-1))] (.int 0) := Arv.set Ar12 q12 S12 M12 H12 G12 rfl W12 0 rfl (Nat.le_of_ble_eq_true rfl)
    have K14 := K0.wr W12 (Or.inl mI0)
    have O15 := O0.wr W12 ga
    have N12 := Fr.snoc X12 N0 ga
    refine Go.st st12 ?_
    refine Go.st (t' := T12.setTop (mkF m 20 #[SR a0_, SI (-1), SI 1, SI 1] [])) (fun target kt => ?_) ?_
    · refine XS.iinc X12.here hx rfl (hb hby d45_14) rfl (l' := #[SR a0_, SI (-1), SI 1, SI 1]) rfl ?_
      refine XS.goto X12.here hx rfl (pc0 := 17) (pc' := 5) rfl (hb hby d45_17) (by decide) (by decide) ?_
      refine XS.iloadN X12.here hx rfl (hb hby d45_5) rfl ?_
      refine XS.iloadN X12.here hx rfl (hb hby d45_6) rfl ?_
      refine XS.icmpYes X12.here hx rfl (pc0 := 7) (pc' := 20) rfl (hb hby d45_7) rfl (flt (by decide : ¬ ((1 : Int32) < (1 : Int32)))).2.1 (by decide) (by decide) ?_
      exact kt
    obtain ⟨cf, Af, -, Sf, -, -, -⟩ := id V13
    refine Go.ret X12 (v := none) (fun _ => rfl) hlk (fun fs hr => X12.returnOut hx hret (hb hby d45_20) hr) ?_ (by decide) (by decide)
    show Q45 Z a0_ ka k h0 n0 _ T12.heap _
    rw [e12]
    exact ⟨cf, rfl, N12, K14, Af, (by rw [hk]; exact Sf)⟩
  · have Vq := V_a
    rw [hk] at Vq
    have Vp : Arv Z h0 a0_ ka .int (2 : Int32) [(.int 0), (.int 0)] (.int 0) := Vq.pad (pad_rep [] (.int 0) 2)
    obtain ⟨cl16, Ar16, -, S16, M16, -, -⟩ := id Vp
    refine Go.st (t' := s₁.setTop (mkF m 13 #[SR a0_, SI (-1), SI 0, SI 2] [(.int (-1)), (.int 0), (.ref a0_)])) (fun target kt => ?_) ?_
    · refine XS.iconst X0.here hx rfl (hb hby d45_0) ?_
      refine XS.istoreN X0.here hx rfl (hb hby d45_1) rfl (l' := #[SR a0_, SI (-1), SI 0, .unset]) rfl ?_
      refine XS.aloadN X0.here hx rfl (hb hby d45_2) rfl rfl ?_
      refine X0.arraylength hx (by rw [e0]; exact Ar16.1) (State.isArrayOf_alike hZ.alike Ar16.2.1) (g := (mkF m 3 #[SR a0_, SI (-1), SI 0, .unset] [(.ref a0_)])) rfl rfl (hb hby d45_3) _ ?_
      rw [len_of S16 M16]
      refine XS.istoreN X0.here hx rfl (hb hby d45_4) rfl (l' := #[SR a0_, SI (-1), SI 0, SI 2]) rfl ?_
      refine XS.iloadN X0.here hx rfl (hb hby d45_5) rfl ?_
      refine XS.iloadN X0.here hx rfl (hb hby d45_6) rfl ?_
      refine XS.icmpNo X0.here hx rfl (hb hby d45_7) rfl (tlt (by decide : (0 : Int32) < (2 : Int32))).2.1 ?_
      refine XS.aloadN X0.here hx rfl (hb hby d45_10) rfl rfl ?_
      refine XS.iloadN X0.here hx rfl (hb hby d45_11) rfl ?_
      refine XS.iloadN X0.here hx rfl (hb hby d45_12) rfl ?_
      exact kt
    obtain ⟨cl17, Ar17, q17, S17, M17, H17, G17⟩ := id Vp
    have hin17 : ¬ ((0 : Int32) < 0 ∨ cl17.slots.size ≤ ((0 : Int32)).toNatClampNeg) := inb_of S17 ⟨by decide, by decide⟩
    obtain ⟨T17, h17, X17, e17, W17, st17⟩ := stI X0 hx hZ e0 Ar17 (j := (0 : Int32)) hin17 (g := (mkF m 13 #[SR a0_, SI (-1), SI 0, SI 2] [(.int (-1)), (.int 0), (.ref a0_)])) rfl rfl (hb hby d45_13)
    have V18 : Arv Z h17 a0_ ka .int (2 : Int32) [(.int (-1)), (.int 0)] (.int 0) := Arv.set Ar17 q17 S17 M17 H17 G17 rfl W17 0 rfl (Nat.le_of_ble_eq_true rfl)
    have K19 := K0.wr W17 (Or.inl mI0)
    have O20 := O0.wr W17 ga
    have N17 := Fr.snoc X17 N0 ga
    refine Go.st st17 ?_
    refine Go.st (t' := T17.setTop (mkF m 13 #[SR a0_, SI (-1), SI 1, SI 2] [(.int (-1)), (.int 1), (.ref a0_)])) (fun target kt => ?_) ?_
    · refine XS.iinc X17.here hx rfl (hb hby d45_14) rfl (l' := #[SR a0_, SI (-1), SI 1, SI 2]) rfl ?_
      refine XS.goto X17.here hx rfl (pc0 := 17) (pc' := 5) rfl (hb hby d45_17) (by decide) (by decide) ?_
      refine XS.iloadN X17.here hx rfl (hb hby d45_5) rfl ?_
      refine XS.iloadN X17.here hx rfl (hb hby d45_6) rfl ?_
      refine XS.icmpNo X17.here hx rfl (hb hby d45_7) rfl (tlt (by decide : (1 : Int32) < (2 : Int32))).2.1 ?_
      refine XS.aloadN X17.here hx rfl (hb hby d45_10) rfl rfl ?_
      refine XS.iloadN X17.here hx rfl (hb hby d45_11) rfl ?_
      refine XS.iloadN X17.here hx rfl (hb hby d45_12) rfl ?_
      exact kt
    obtain ⟨cl21, Ar21, q21, S21, M21, H21, G21⟩ := id V18
    have hin21 : ¬ ((1 : Int32) < 0 ∨ cl21.slots.size ≤ ((1 : Int32)).toNatClampNeg) := inb_of S21 ⟨by decide, by decide⟩
    obtain ⟨T21, h21, X21, e21, W21, st21⟩ := stI X17 hx hZ e17 Ar21 (j := (1 : Int32)) hin21 (g := (mkF m 13 #[SR a0_, SI (-1), SI 1, SI 2] [(.int (-1)), (.int 1), (.ref a0_)])) rfl rfl (hb hby d45_13)
    have V22 : Arv Z h21 a0_ ka .int (2 : Int32) [(.int (-1)), (.int (-1))] (.int 0) := Arv.set Ar21 q21 S21 M21 H21 G21 rfl W21 1 rfl (Nat.le_of_ble_eq_true rfl)
    have K23 := K19.wr W21 (Or.inl mI0)
    have O24 := O20.wr W21 ga
    have N21 := Fr.snoc X21 N17 ga
    refine Go.st st21 ?_
    refine Go.st (t' := T21.setTop (mkF m 20 #[SR a0_, SI (-1), SI 2, SI 2] [])) (fun target kt => ?_) ?_
    · refine XS.iinc X21.here hx rfl (hb hby d45_14) rfl (l' := #[SR a0_, SI (-1), SI 2, SI 2]) rfl ?_
      refine XS.goto X21.here hx rfl (pc0 := 17) (pc' := 5) rfl (hb hby d45_17) (by decide) (by decide) ?_
      refine XS.iloadN X21.here hx rfl (hb hby d45_5) rfl ?_
      refine XS.iloadN X21.here hx rfl (hb hby d45_6) rfl ?_
      refine XS.icmpYes X21.here hx rfl (pc0 := 7) (pc' := 20) rfl (hb hby d45_7) rfl (flt (by decide : ¬ ((2 : Int32) < (2 : Int32)))).2.1 (by decide) (by decide) ?_
      exact kt
    obtain ⟨cf, Af, -, Sf, -, -, -⟩ := id V22
    refine Go.ret X21 (v := none) (fun _ => rfl) hlk (fun fs hr => X21.returnOut hx hret (hb hby d45_20) hr) ?_ (by decide) (by decide)
    show Q45 Z a0_ ka k h0 n0 _ T21.heap _
    rw [e21]
    exact ⟨cf, rfl, N21, K23, Af, (by rw [hk]; exact Sf)⟩
theorem d41_0 : decode zc22 0 = .ok (.aload_n 0, 1) := by decide +kernel
theorem d41_1 : decode zc22 1 = .ok (.getfield 32, 3) := by decide +kernel
theorem d41_4 : decode zc22 4 = .ok (.aload_n 0, 1) := by decide +kernel
theorem d41_5 : decode zc22 5 = .ok (.getfield 36, 3) := by decide +kernel
theorem d41_8 : decode zc22 8 = .ok (.invokeinterface 40 2, 5) := by decide +kernel
theorem tw321 : (Cond.methodLink sq9 40 ⟨sq3, "get", sq16⟩) ∈ tables_1 := mAt 321 rfl
theorem tw327 : (Cond.code ⟨sq7, "get", sq16⟩ jdk_45_method_4_code 2 (Option.some (FieldType.object sq1))) ∈ tables_1 := mAt 327 rfl
theorem tw322 : (Cond.selects sq7 ⟨sq3, "get", sq16⟩ ⟨sq7, "get", sq16⟩) ∈ tables_1 := mAt 322 rfl
theorem tw323 : (Cond.instanceMethod ⟨sq7, "get", sq16⟩) ∈ tables_1 := mAt 323 rfl
theorem tw324 : (Cond.publicMethod ⟨sq7, "get", sq16⟩) ∈ tables_1 := mAt 324 rfl
theorem tw325 : (Cond.unhidden sq7 "get" sq16) ∈ tables_1 := mAt 325 rfl
theorem tw326 : (Cond.castable sq7 sq3) ∈ tables_1 := mAt 326 rfl
theorem d41_13 : decode zc22 13 = .ok (.checkcast 44, 3) := by decide +kernel
theorem tw328 : (Cond.classLink sq9 44 sq4) ∈ tables_1 := mAt 328 rfl
theorem d41_16 : decode zc22 16 = .ok (.areturn, 1) := by decide +kernel
def Q41 (Z : State) (a0_ : Addr) (r : Addr) (k : Int32) (re : Addr) (kr : ClassId) (y0 : Addr) (y1 : Addr) (y2 : Addr) (wl : Addr) (l1 : Addr) (l2 : Addr) (h0 : Heap) (n0 : Nat) (v : Option Value) (h : Heap) (L : List Loc) : Prop := ∃ (sp : Addr) (ll : Addr), v = some (.ref sp) ∧ Fr n0 L ∧ h = h0 ∧ Exa Z h sp sq4 ∧ Fld Z h sp sq4 "legs" sq11 (.ref ll) ∧ ((k = (0 : Int32) ∧ ll = wl) ∨ (k = (1 : Int32) ∧ ll = l1) ∨ (k = (2 : Int32) ∧ ll = l2))
theorem rm41 (l : Launch) (Z : State) (a0 : Array Value) (hw : ∀ d ∈ tables_1, d.before a0 Z = true) (ws : List Jvm.Cond) (a0_ : Addr) (r : Addr) (k : Int32) (re : Addr) (kr : ClassId) (y0 : Addr) (y1 : Addr) (y2 : Addr) (wl : Addr) (l1 : Addr) (l2 : Addr) (h0 : Heap) (n0 : Nat) (O0 : Old Z n0 h0) (E0 : Exa Z h0 a0_ sq9) (F_p : Fld Z h0 a0_ sq9 "plans" sq11 (.ref r)) (F_s : Fld Z h0 a0_ sq9 "selected" "I" (.int k)) (hk0 : ¬ k < 0) (hk2 : k < (3 : Int32)) (E_r : Exa Z h0 r sq7) (F_r : Fld Z h0 r sq7 "elements" sq2 (.ref re)) (V_re : Arv Z h0 re kr (.object sq1) (3 : Int32) [(.ref y0), (.ref y1), (.ref y2)] .null) (E_y0 : Exa Z h0 y0 sq4) (E_y1 : Exa Z h0 y1 sq4) (E_y2 : Exa Z h0 y2 sq4) (Fl_y0 : Fld Z h0 y0 sq4 "legs" sq11 (.ref wl)) (Fl_y1 : Fld Z h0 y1 sq4 "legs" sq11 (.ref l1)) (Fl_y2 : Fld Z h0 y2 sq4 "legs" sq11 (.ref l2)) :
    Met l Z ws (⟨sq9, "selectedPlan", sq37⟩ : MethodName) prog_45_method_5_code 1 (some (.object sq4)) (Rm 1 0 0 13) #[(.ref a0_)] h0 (Q41 Z a0_ r k re kr y0 y1 y2 wl l1 l2 h0 n0) := by
  refine Met.enter (L0 := #[SR a0_]) (plainFor_of_name pn373) (fun m => ef3 m a0_) ?_
  intro p e s m below meth c s₁ hx hby hml hown hnm hret hlk hZ X0 e0
  have N0 := Fr.nil n0
  have Z0 := own_z0 O0
  have K0 : Keep h0 h0 [] := Keep.refl h0 _
  rcases own_le2 hk0 hk2 with hk | hk | hk
  · have F10 : Fld Z h0 a0_ sq9 "selected" "I" (.int 0) := hk ▸ F_s
    refine Go.st (t' := s₁.setTop (mkF m 1 #[SR a0_] [(.ref a0_)])) (fun target kt => ?_) ?_
    · refine XS.aloadN X0.here hx rfl (hb hby d41_0) rfl rfl ?_
      exact kt
    obtain ⟨T11, X11, e11, st11⟩ := getF X0 hx hZ hown (host := "") (Or.inl (hw _ tw284)) Via.refl e0 F_p (g := (mkF m 1 #[SR a0_] [(.ref a0_)])) rfl rfl (hb hby d41_1)
    refine Go.st st11 ?_
    refine Go.st (t' := T11.setTop (mkF m 5 #[SR a0_] [(.ref a0_), (.ref r)])) (fun target kt => ?_) ?_
    · refine XS.aloadN X11.here hx rfl (hb hby d41_4) rfl rfl ?_
      exact kt
    obtain ⟨T12, X12, e12, st12⟩ := getF X11 hx hZ hown (host := "") (Or.inl (hw _ tw286)) Via.refl e11 F10 (g := (mkF m 5 #[SR a0_] [(.ref a0_), (.ref r)])) rfl rfl (hb hby d41_5)
    refine Go.st st12 ?_
    refine Go.cps (own_cf (W := 0) (b := r) (argsL := [(.int 0)]) (rest := []) X12 hx hZ hown (hw _ tw321) (hw _ tw223) (hw _ tw224) (hw _ tw322) (hw _ tw323) (hw _ tw324) (hw _ tw325) (hw _ tw326) (hw _ tw327) (hw _ tw258) (by decide) e12 E_r (rm42_0 l Z a0 hw [] r re kr y0 y1 y2 h0 n0 O0  E_r F_r V_re) rfl (by rw [hml]; rfl) (lenOf pd7 rfl) rfl (Nat.le_of_eq rfl) (hb hby d41_8) rfl (by decide)) ?_
    rintro T13 _ L13 X13 ⟨rfl, Nq13, eq13⟩
    have N13 := Fr.app N0 Nq13
    obtain ⟨T14, X14, e14, st14⟩ := castY X13 hx hZ hown (hw _ tw328) eq13 (Ins.self E_y0) (g := (mkF m 13 #[SR a0_] [(.ref y0)])) rfl rfl (hb hby d41_13)
    refine Go.st st14 ?_
    refine Go.ret X14 (v := some (.ref y0)) (fun h => by rw [hret] at h; cases h) hlk (fun fs hr => retR X14 hx hret rfl rfl (hb hby d41_16) hr) ?_ (by decide) (by decide)
    show Q41 Z a0_ r k re kr y0 y1 y2 wl l1 l2 h0 n0 _ T14.heap _
    rw [e14]
    exact ⟨y0, wl, rfl, N13, rfl, E_y0, Fl_y0, (Or.inl ⟨hk, rfl⟩)⟩
  · have F15 : Fld Z h0 a0_ sq9 "selected" "I" (.int 1) := hk ▸ F_s
    refine Go.st (t' := s₁.setTop (mkF m 1 #[SR a0_] [(.ref a0_)])) (fun target kt => ?_) ?_
    · refine XS.aloadN X0.here hx rfl (hb hby d41_0) rfl rfl ?_
      exact kt
    obtain ⟨T16, X16, e16, st16⟩ := getF X0 hx hZ hown (host := "") (Or.inl (hw _ tw284)) Via.refl e0 F_p (g := (mkF m 1 #[SR a0_] [(.ref a0_)])) rfl rfl (hb hby d41_1)
    refine Go.st st16 ?_
    refine Go.st (t' := T16.setTop (mkF m 5 #[SR a0_] [(.ref a0_), (.ref r)])) (fun target kt => ?_) ?_
    · refine XS.aloadN X16.here hx rfl (hb hby d41_4) rfl rfl ?_
      exact kt
    obtain ⟨T17, X17, e17, st17⟩ := getF X16 hx hZ hown (host := "") (Or.inl (hw _ tw286)) Via.refl e16 F15 (g := (mkF m 5 #[SR a0_] [(.ref a0_), (.ref r)])) rfl rfl (hb hby d41_5)
    refine Go.st st17 ?_
    refine Go.cps (own_cf (W := 0) (b := r) (argsL := [(.int 1)]) (rest := []) X17 hx hZ hown (hw _ tw321) (hw _ tw223) (hw _ tw224) (hw _ tw322) (hw _ tw323) (hw _ tw324) (hw _ tw325) (hw _ tw326) (hw _ tw327) (hw _ tw258) (by decide) e17 E_r (rm42_1 l Z a0 hw [] r re kr y0 y1 y2 h0 n0 O0  E_r F_r V_re) rfl (by rw [hml]; rfl) (lenOf pd7 rfl) rfl (Nat.le_of_eq rfl) (hb hby d41_8) rfl (by decide)) ?_
    rintro T18 _ L18 X18 ⟨rfl, Nq18, eq18⟩
    have N18 := Fr.app N0 Nq18
    obtain ⟨T19, X19, e19, st19⟩ := castY X18 hx hZ hown (hw _ tw328) eq18 (Ins.self E_y1) (g := (mkF m 13 #[SR a0_] [(.ref y1)])) rfl rfl (hb hby d41_13)
    refine Go.st st19 ?_
    refine Go.ret X19 (v := some (.ref y1)) (fun h => by rw [hret] at h; cases h) hlk (fun fs hr => retR X19 hx hret rfl rfl (hb hby d41_16) hr) ?_ (by decide) (by decide)
    show Q41 Z a0_ r k re kr y0 y1 y2 wl l1 l2 h0 n0 _ T19.heap _
    rw [e19]
    exact ⟨y1, l1, rfl, N18, rfl, E_y1, Fl_y1, (Or.inr (Or.inl ⟨hk, rfl⟩))⟩
  · have F20 : Fld Z h0 a0_ sq9 "selected" "I" (.int 2) := hk ▸ F_s
    refine Go.st (t' := s₁.setTop (mkF m 1 #[SR a0_] [(.ref a0_)])) (fun target kt => ?_) ?_
    · refine XS.aloadN X0.here hx rfl (hb hby d41_0) rfl rfl ?_
      exact kt
    obtain ⟨T21, X21, e21, st21⟩ := getF X0 hx hZ hown (host := "") (Or.inl (hw _ tw284)) Via.refl e0 F_p (g := (mkF m 1 #[SR a0_] [(.ref a0_)])) rfl rfl (hb hby d41_1)
    refine Go.st st21 ?_
    refine Go.st (t' := T21.setTop (mkF m 5 #[SR a0_] [(.ref a0_), (.ref r)])) (fun target kt => ?_) ?_
    · refine XS.aloadN X21.here hx rfl (hb hby d41_4) rfl rfl ?_
      exact kt
    obtain ⟨T22, X22, e22, st22⟩ := getF X21 hx hZ hown (host := "") (Or.inl (hw _ tw286)) Via.refl e21 F20 (g := (mkF m 5 #[SR a0_] [(.ref a0_), (.ref r)])) rfl rfl (hb hby d41_5)
    refine Go.st st22 ?_
    refine Go.cps (own_cf (W := 0) (b := r) (argsL := [(.int 2)]) (rest := []) X22 hx hZ hown (hw _ tw321) (hw _ tw223) (hw _ tw224) (hw _ tw322) (hw _ tw323) (hw _ tw324) (hw _ tw325) (hw _ tw326) (hw _ tw327) (hw _ tw258) (by decide) e22 E_r (rm42_2 l Z a0 hw [] r re kr y0 y1 y2 h0 n0 O0  E_r F_r V_re) rfl (by rw [hml]; rfl) (lenOf pd7 rfl) rfl (Nat.le_of_eq rfl) (hb hby d41_8) rfl (by decide)) ?_
    rintro T23 _ L23 X23 ⟨rfl, Nq23, eq23⟩
    have N23 := Fr.app N0 Nq23
    obtain ⟨T24, X24, e24, st24⟩ := castY X23 hx hZ hown (hw _ tw328) eq23 (Ins.self E_y2) (g := (mkF m 13 #[SR a0_] [(.ref y2)])) rfl rfl (hb hby d41_13)
    refine Go.st st24 ?_
    refine Go.ret X24 (v := some (.ref y2)) (fun h => by rw [hret] at h; cases h) hlk (fun fs hr => retR X24 hx hret rfl rfl (hb hby d41_16) hr) ?_ (by decide) (by decide)
    show Q41 Z a0_ r k re kr y0 y1 y2 wl l1 l2 h0 n0 _ T24.heap _
    rw [e24]
    exact ⟨y2, l2, rfl, N23, rfl, E_y2, Fl_y2, (Or.inr (Or.inr ⟨hk, rfl⟩))⟩
theorem d39_0 : decode zc0 0 = .ok (.aload_n 0, 1) := by decide +kernel
theorem d39_1 : decode zc0 1 = .ok (.invokespecial 1, 3) := by decide +kernel
theorem tw294 : (Cond.methodLink sq5 1 ⟨sq1, "<init>", "()V"⟩) ∈ tables_1 := mAt 294 rfl
theorem d39_4 : decode zc0 4 = .ok (.aload_n 0, 1) := by decide +kernel
theorem d39_5 : decode zc0 5 = .ok (.aload_n 1, 1) := by decide +kernel
theorem d39_6 : decode zc0 6 = .ok (.putfield 7, 3) := by decide +kernel
theorem tw295 : (Cond.fieldLink sq5 7 sq5 "persons" sq11) ∈ tables_1 := mAt 295 rfl
theorem tw296 : (Cond.laysFinal sq5 sq5 "persons" sq11) ∈ tables_1 := mAt 296 rfl
theorem tw289 : (Cond.instantiable sq5 6) ∈ tables_1 := mAt 289 rfl
theorem d39_9 : decode zc0 9 = .ok (.aload_n 0, 1) := by decide +kernel
theorem d39_10 : decode zc0 10 = .ok (.aload_n 1, 1) := by decide +kernel
theorem d39_11 : decode zc0 11 = .ok (.invokeinterface 13 1, 5) := by decide +kernel
theorem tw297 : (Cond.methodLink sq5 13 ⟨sq3, "size", "()I"⟩) ∈ tables_1 := mAt 297 rfl
theorem d39_16 : decode zc0 16 = .ok (.anewarray 19, 3) := by decide +kernel
theorem tw298 : (Cond.classLink sq5 19 "[I") ∈ tables_1 := mAt 298 rfl
theorem tw299 : (Cond.arrayOver (FieldType.array FieldType.int)) ∈ tables_1 := mAt 299 rfl
theorem d39_19 : decode zc0 19 = .ok (.putfield 21, 3) := by decide +kernel
theorem tw300 : (Cond.fieldLink sq5 21 sq5 "departures" "[[I") ∈ tables_1 := mAt 300 rfl
theorem tw301 : (Cond.laysFinal sq5 sq5 "departures" "[[I") ∈ tables_1 := mAt 301 rfl
theorem d39_22 : decode zc0 22 = .ok (.aload_n 0, 1) := by decide +kernel
theorem d39_23 : decode zc0 23 = .ok (.aload_n 1, 1) := by decide +kernel
theorem d39_24 : decode zc0 24 = .ok (.invokeinterface 13 1, 5) := by decide +kernel
theorem d39_29 : decode zc0 29 = .ok (.anewarray 19, 3) := by decide +kernel
theorem d39_32 : decode zc0 32 = .ok (.putfield 25, 3) := by decide +kernel
theorem tw302 : (Cond.fieldLink sq5 25 sq5 "arrivals" "[[I") ∈ tables_1 := mAt 302 rfl
theorem tw303 : (Cond.laysFinal sq5 sq5 "arrivals" "[[I") ∈ tables_1 := mAt 303 rfl
theorem d39_35 : decode zc0 35 = .ok (.aload_n 0, 1) := by decide +kernel
theorem d39_36 : decode zc0 36 = .ok (.aload_n 1, 1) := by decide +kernel
theorem d39_37 : decode zc0 37 = .ok (.invokeinterface 13 1, 5) := by decide +kernel
theorem d39_42 : decode zc0 42 = .ok (.newarray .int, 2) := by decide +kernel
theorem tw304 : (Cond.arrayClass FieldType.int) ∈ tables_1 := mAt 304 rfl
theorem d39_44 : decode zc0 44 = .ok (.putfield 28, 3) := by decide +kernel
theorem tw305 : (Cond.fieldLink sq5 28 sq5 "departed" "[I") ∈ tables_1 := mAt 305 rfl
theorem tw306 : (Cond.laysFinal sq5 sq5 "departed" "[I") ∈ tables_1 := mAt 306 rfl
theorem d39_47 : decode zc0 47 = .ok (.iconst 0, 1) := by decide +kernel
theorem d39_48 : decode zc0 48 = .ok (.istore_n 2, 1) := by decide +kernel
theorem d39_49 : decode zc0 49 = .ok (.iload_n 2, 1) := by decide +kernel
theorem d39_50 : decode zc0 50 = .ok (.aload_n 0, 1) := by decide +kernel
theorem d39_51 : decode zc0 51 = .ok (.getfield 21, 3) := by decide +kernel
theorem d39_54 : decode zc0 54 = .ok (.arraylength, 1) := by decide +kernel
theorem d39_55 : decode zc0 55 = .ok (.if_icmp .ge 69, 3) := by decide +kernel
theorem d39_124 : decode zc0 124 = .ok (.return_, 1) := by decide +kernel
theorem ef39_0 (m : MethodId) (x0 : Addr) (x1 : Addr) : entryFrame m #[(.ref x0), (.ref x1)] 4 = mkF m 0 #[SR x0, SR x1, .unset, .unset] [] := by first | (simp [entryFrame, mkF, argsToLocals, Value.category]; done) | rfl
def Q39_0 (Z : State) (a0_ : Addr) (a1_ : Addr) (we : Addr) (wl : Addr) (wle : Addr) (kle : ClassId) (wd : Addr) (kd : ClassId) (h0 : Heap) (n0 : Nat) (v : Option Value) (h : Heap) (L : List Loc) : Prop := ∃ (dp : Addr) (kd_ : ClassId), v = none ∧ Fr n0 L ∧ Keep h0 h [a0_] ∧ Exa Z h a0_ sq5 ∧ Fld Z h a0_ sq5 "departures" "[[I" (.ref dp) ∧ Arv Z h dp kd_ (.array .int) (0 : Int32) [] .null
theorem pn444 : plainName "com/example/count_calibrated_demand/countcalibrateddemand/LegTimes" = true := by first | (simp [plainName, overriddenIn]; done) | decide +kernel
theorem rm39_0 (l : Launch) (Z : State) (a0 : Array Value) (hw : ∀ d ∈ tables_1, d.before a0 Z = true) (ws : List Jvm.Cond) (a0_ : Addr) (a1_ : Addr) (we : Addr) (wl : Addr) (wle : Addr) (kle : ClassId) (wd : Addr) (kd : ClassId) (h0 : Heap) (n0 : Nat) (O0 : Old Z n0 h0) (S_EM : Sta Z Z.heap sq14 "EMPTY" sq12 (.ref we)) (E_wl : Exa Z Z.heap wl sq7) (F_wl : Fld Z Z.heap wl sq7 "elements" sq2 (.ref wle)) (V_wle : Arv Z Z.heap wle kle (.object sq1) (0 : Int32) [] .null) (S_DE : Sta Z Z.heap sq0 sq30 sq2 (.ref wd)) (E_wd : Exa Z Z.heap wd sq2) (V_wd : Arv Z Z.heap wd kd (.object sq1) (0 : Int32) [] .null) (E0 : Exa Z h0 a0_ sq5) (g0 : n0 ≤ a0_) (F_persons : Fld Z h0 a0_ sq5 "persons" sq11 .null) (F_departures : Fld Z h0 a0_ sq5 "departures" "[[I" .null) (F_arrivals : Fld Z h0 a0_ sq5 "arrivals" "[[I" .null) (F_departed : Fld Z h0 a0_ sq5 "departed" "[I" .null) (E_l : Exa Z h0 a1_ sq0) (Fd_l : Fld Z h0 a1_ sq0 sq10 sq2 (.ref wd)) (Fs_l : Fld Z h0 a1_ sq0 "size" "I" (.int 0)) (ne_a1_ : a1_ ≠ a0_) :
    Met l Z ws mm6 prog_32_method_1_code 4 none (Rm 1 3 0 13) #[(.ref a0_), (.ref a1_)] h0 (Q39_0 Z a0_ a1_ we wl wle kle wd kd h0 n0) := by
  refine Met.enter (L0 := #[SR a0_, SR a1_, .unset, .unset]) (plainFor_of_name pn444) (fun m => ef39_0 m a0_ a1_) ?_
  intro p e s m below meth c s₁ hx hby hml hown hnm hret hlk hZ X0 e0
  have N0 := Fr.nil n0
  have Z0 := own_z0 O0
  have K0 : Keep h0 h0 [a0_] := Keep.refl h0 _
  refine Go.st (t' := s₁.setTop (mkF m 1 #[SR a0_, SR a1_, .unset, .unset] [(.ref a0_)])) (fun target kt => ?_) ?_
  · refine XS.aloadN X0.here hx rfl (hb hby d39_0) rfl rfl ?_
    exact kt
  obtain ⟨T10, X10, e10, st10⟩ := initO X0 hx hZ hown (hw _ tw294) (hw _ tw24) (hw _ tw25) e0 (g := (mkF m 1 #[SR a0_, SR a1_, .unset, .unset] [(.ref a0_)])) rfl (by rw [hml]; rfl) rfl (hb hby d39_1) (by decide) (W := 0) (by show 2 * 0 + _ ≤ _; exact Nat.le_of_eq rfl) (by decide)
  refine Go.st st10 ?_
  refine Go.st (t' := T10.setTop (mkF m 6 #[SR a0_, SR a1_, .unset, .unset] [(.ref a1_), (.ref a0_)])) (fun target kt => ?_) ?_
  · refine XS.aloadN X10.here hx rfl (hb hby d39_4) rfl rfl ?_
    refine XS.aloadN X10.here hx rfl (hb hby d39_5) rfl rfl ?_
    exact kt
  obtain ⟨T11, h11, X11, e11, W11, st11⟩ := putF X10 hx hZ hown (host := "") (Or.inl (hw _ tw295)) Via.refl e10 F_persons E0 (Or.inr ⟨(hw _ tw296), rfl, hnm⟩) (hw _ tw289) (ty := (.object sq3)) (by decide) rfl rfl (g := (mkF m 6 #[SR a0_, SR a1_, .unset, .unset] [(.ref a1_), (.ref a0_)])) rfl rfl (hb hby d39_6)
  have F12 : Fld Z h11 a0_ sq5 "persons" sq11 (.ref a1_) := F_persons.same W11
  have K13 := K0.wr W11 (Or.inl mI0)
  have O14 := O0.wr W11 g0
  have N11 := Fr.snoc X11 N0 g0
  refine Go.st st11 ?_
  refine Go.st (t' := T11.setTop (mkF m 11 #[SR a0_, SR a1_, .unset, .unset] [(.ref a1_), (.ref a0_)])) (fun target kt => ?_) ?_
  · refine XS.aloadN X11.here hx rfl (hb hby d39_9) rfl rfl ?_
    refine XS.aloadN X11.here hx rfl (hb hby d39_10) rfl rfl ?_
    exact kt
  have c15 := Fs_l.keep K13 (ninS ne_a1_ nin0)
  have c17 := E_l.keep K13
  refine Go.cps (own_cf (W := 1) (b := a1_) (argsL := []) (rest := [(.ref a0_)]) X11 hx hZ hown (hw _ tw297) (hw _ tw118) (hw _ tw119) (hw _ tw120) (hw _ tw121) (hw _ tw122) (hw _ tw123) (hw _ tw115) (hw _ tw124) (hw _ tw47) (by decide) e11 c17 (rm16 l Z a0 hw [] a1_ (0 : Int32) h11 n0 O14  c15) rfl (by rw [hml]; rfl) (lenOf pd18 rfl) rfl (Nat.le_of_eq rfl) (hb hby d39_11) rfl (by decide)) ?_
  rintro T16 _ L16 X16 ⟨rfl, Nq16, eq16⟩
  have N16 := Fr.app N11 Nq16
  obtain ⟨T18, h18, k18, X18, e18, E18, A18, B18, O'18, st18⟩ := newRA X16 hx hZ hown (by decide) (hw _ tw298) (hw _ tw299) eq16 (g := (mkF m 16 #[SR a0_, SR a1_, .unset, .unset] [(.int 0), (.ref a0_)])) rfl (hb hby d39_16) rfl (by decide) (cap := 0) (by decide) (by decide) (by decide) (by decide) (ad := "[[I") (by decide)
  obtain ⟨b18, g18⟩ : ∃ z, z = h11.size := ⟨_, rfl⟩
  rw [← g18] at A18 B18 st18
  have lb19 : h11.size ≤ b18 := Nat.le_of_eq g18.symm
  have sz20 : h0.size ≤ b18 := Nat.le_trans K13.1 lb19
  have g21 : n0 ≤ b18 := Nat.le_trans Z0 sz20
  have K22 := K13.ext E18
  have O23 := O14.ext E18
  have V24 : Arv Z h18 b18 k18 (.array .int) (0 : Int32) [] .null := (Arv.new A18 (by decide)).pad (pad_rep [] .null 0)
  refine Go.st st18 ?_
  have c25 := (F_departures.other W11 (Or.inr (slot_ne (Or.inr (hw _ tw301)) (Or.inr (hw _ tw296)) (by decide) (t := (.array (.array .int))) (t' := (.object sq3)) (by decide) (by decide)))).ext E18
  have c26 := E0.keep K22
  obtain ⟨T27, h27, X27, e27, W27, st27⟩ := putF X18 hx hZ hown (host := "") (Or.inl (hw _ tw300)) Via.refl e18 c25 c26 (Or.inr ⟨(hw _ tw301), rfl, hnm⟩) (hw _ tw289) (ty := (.array (.array .int))) (by decide) rfl rfl (g := (mkF m 19 #[SR a0_, SR a1_, .unset, .unset] [(.ref b18), (.ref a0_)])) rfl rfl (hb hby d39_19)
  have F28 : Fld Z h27 a0_ sq5 "departures" "[[I" (.ref b18) := c25.same W27
  have K29 := K22.wr W27 (Or.inl mI0)
  have O30 := O23.wr W27 g0
  have N27 := Fr.snoc X27 N16 g0
  refine Go.st st27 ?_
  refine Go.st (t' := T27.setTop (mkF m 24 #[SR a0_, SR a1_, .unset, .unset] [(.ref a1_), (.ref a0_)])) (fun target kt => ?_) ?_
  · refine XS.aloadN X27.here hx rfl (hb hby d39_22) rfl rfl ?_
    refine XS.aloadN X27.here hx rfl (hb hby d39_23) rfl rfl ?_
    exact kt
  have S_31 : Keep h11 h27 [a0_] := (((Keep.refl h11 [a0_]).ext E18).wr W27 (Or.inl mI0))
  have c32 := c15.keep S_31 (ninS ne_a1_ nin0)
  have c34 := c17.keep S_31
  refine Go.cps (own_cf (W := 1) (b := a1_) (argsL := []) (rest := [(.ref a0_)]) X27 hx hZ hown (hw _ tw297) (hw _ tw118) (hw _ tw119) (hw _ tw120) (hw _ tw121) (hw _ tw122) (hw _ tw123) (hw _ tw115) (hw _ tw124) (hw _ tw47) (by decide) e27 c34 (rm16 l Z a0 hw [] a1_ (0 : Int32) h27 n0 O30  c32) rfl (by rw [hml]; rfl) (lenOf pd18 rfl) rfl (Nat.le_of_eq rfl) (hb hby d39_24) rfl (by decide)) ?_
  rintro T33 _ L33 X33 ⟨rfl, Nq33, eq33⟩
  have N33 := Fr.app N27 Nq33
  obtain ⟨T35, h35, k35, X35, e35, E35, A35, B35, O'35, st35⟩ := newRA X33 hx hZ hown (by decide) (hw _ tw298) (hw _ tw299) eq33 (g := (mkF m 29 #[SR a0_, SR a1_, .unset, .unset] [(.int 0), (.ref a0_)])) rfl (hb hby d39_29) rfl (by decide) (cap := 0) (by decide) (by decide) (by decide) (by decide) (ad := "[[I") (by decide)
  obtain ⟨b35, g35⟩ : ∃ z, z = h27.size := ⟨_, rfl⟩
  rw [← g35] at A35 B35 st35
  have lb36 : h27.size ≤ b35 := Nat.le_of_eq g35.symm
  have sz37 : h0.size ≤ b35 := Nat.le_trans K29.1 lb36
  have g38 : n0 ≤ b35 := Nat.le_trans Z0 sz37
  have K39 := K29.ext E35
  have O40 := O30.ext E35
  have V41 : Arv Z h35 b35 k35 (.array .int) (0 : Int32) [] .null := (Arv.new A35 (by decide)).pad (pad_rep [] .null 0)
  refine Go.st st35 ?_
  have c42 := (((F_arrivals.other W11 (Or.inr (slot_ne (Or.inr (hw _ tw303)) (Or.inr (hw _ tw296)) (by decide) (t := (.array (.array .int))) (t' := (.object sq3)) (by decide) (by decide)))).ext E18).other W27 (Or.inr (slot_ne (Or.inr (hw _ tw303)) (Or.inr (hw _ tw301)) (by decide) (t := (.array (.array .int))) (t' := (.array (.array .int))) (by decide) (by decide)))).ext E35
  have S_43 : Keep h18 h35 [a0_] := (((Keep.refl h18 [a0_]).wr W27 (Or.inl mI0)).ext E35)
  have c44 := c26.keep S_43
  obtain ⟨T45, h45, X45, e45, W45, st45⟩ := putF X35 hx hZ hown (host := "") (Or.inl (hw _ tw302)) Via.refl e35 c42 c44 (Or.inr ⟨(hw _ tw303), rfl, hnm⟩) (hw _ tw289) (ty := (.array (.array .int))) (by decide) rfl rfl (g := (mkF m 32 #[SR a0_, SR a1_, .unset, .unset] [(.ref b35), (.ref a0_)])) rfl rfl (hb hby d39_32)
  have F46 : Fld Z h45 a0_ sq5 "arrivals" "[[I" (.ref b35) := c42.same W45
  have K47 := K39.wr W45 (Or.inl mI0)
  have O48 := O40.wr W45 g0
  have N45 := Fr.snoc X45 N33 g0
  refine Go.st st45 ?_
  refine Go.st (t' := T45.setTop (mkF m 37 #[SR a0_, SR a1_, .unset, .unset] [(.ref a1_), (.ref a0_)])) (fun target kt => ?_) ?_
  · refine XS.aloadN X45.here hx rfl (hb hby d39_35) rfl rfl ?_
    refine XS.aloadN X45.here hx rfl (hb hby d39_36) rfl rfl ?_
    exact kt
  have S_49 : Keep h27 h45 [a0_] := (((Keep.refl h27 [a0_]).ext E35).wr W45 (Or.inl mI0))
  have c50 := c32.keep S_49 (ninS ne_a1_ nin0)
  have c52 := c34.keep S_49
  refine Go.cps (own_cf (W := 1) (b := a1_) (argsL := []) (rest := [(.ref a0_)]) X45 hx hZ hown (hw _ tw297) (hw _ tw118) (hw _ tw119) (hw _ tw120) (hw _ tw121) (hw _ tw122) (hw _ tw123) (hw _ tw115) (hw _ tw124) (hw _ tw47) (by decide) e45 c52 (rm16 l Z a0 hw [] a1_ (0 : Int32) h45 n0 O48  c50) rfl (by rw [hml]; rfl) (lenOf pd18 rfl) rfl (Nat.le_of_eq rfl) (hb hby d39_37) rfl (by decide)) ?_
  rintro T51 _ L51 X51 ⟨rfl, Nq51, eq51⟩
  have N51 := Fr.app N45 Nq51
  obtain ⟨T53, h53, k53, X53, e53, E53, A53, B53, st53⟩ := newPE (aty := .int) X51 hx hZ (hw _ tw304) eq51 (g := (mkF m 42 #[SR a0_, SR a1_, .unset, .unset] [(.int 0), (.ref a0_)])) rfl (hb hby d39_42) rfl (by decide) (cap := 0) (by decide) (by decide) (by decide) (by decide) (ad := "[I") (by decide)
  obtain ⟨b53, g53⟩ : ∃ z, z = h45.size := ⟨_, rfl⟩
  rw [← g53] at A53 B53 st53
  have lb54 : h45.size ≤ b53 := Nat.le_of_eq g53.symm
  have sz55 : h0.size ≤ b53 := Nat.le_trans K47.1 lb54
  have g56 : n0 ≤ b53 := Nat.le_trans Z0 sz55
  have K57 := K47.ext E53
  have O58 := O48.ext E53
  have V59 : Arv Z h53 b53 k53 .int (0 : Int32) [] (.int 0) := (Arv.new A53 (by decide)).pad (pad_rep [] (.int 0) 0)
  refine Go.st st53 ?_
  have c60 := (((((F_departed.other W11 (Or.inr (slot_ne (Or.inr (hw _ tw306)) (Or.inr (hw _ tw296)) (by decide) (t := (.array .int)) (t' := (.object sq3)) (by decide) (by decide)))).ext E18).other W27 (Or.inr (slot_ne (Or.inr (hw _ tw306)) (Or.inr (hw _ tw301)) (by decide) (t := (.array .int)) (t' := (.array (.array .int))) (by decide) (by decide)))).ext E35).other W45 (Or.inr (slot_ne (Or.inr (hw _ tw306)) (Or.inr (hw _ tw303)) (by decide) (t := (.array .int)) (t' := (.array (.array .int))) (by decide) (by decide)))).ext E53
  have S_61 : Keep h35 h53 [a0_] := (((Keep.refl h35 [a0_]).wr W45 (Or.inl mI0)).ext E53)
  have c62 := c44.keep S_61
  obtain ⟨T63, h63, X63, e63, W63, st63⟩ := putF X53 hx hZ hown (host := "") (Or.inl (hw _ tw305)) Via.refl e53 c60 c62 (Or.inr ⟨(hw _ tw306), rfl, hnm⟩) (hw _ tw289) (ty := (.array .int)) (by decide) rfl rfl (g := (mkF m 44 #[SR a0_, SR a1_, .unset, .unset] [(.ref b53), (.ref a0_)])) rfl rfl (hb hby d39_44)
  have F64 : Fld Z h63 a0_ sq5 "departed" "[I" (.ref b53) := c60.same W63
  have K65 := K57.wr W63 (Or.inl mI0)
  have O66 := O58.wr W63 g0
  have N63 := Fr.snoc X63 N51 g0
  refine Go.st st63 ?_
  refine Go.st (t' := T63.setTop (mkF m 51 #[SR a0_, SR a1_, SI 0, .unset] [(.ref a0_), (.int 0)])) (fun target kt => ?_) ?_
  · refine XS.iconst X63.here hx rfl (hb hby d39_47) ?_
    refine XS.istoreN X63.here hx rfl (hb hby d39_48) rfl (l' := #[SR a0_, SR a1_, SI 0, .unset]) rfl ?_
    refine XS.iloadN X63.here hx rfl (hb hby d39_49) rfl ?_
    refine XS.aloadN X63.here hx rfl (hb hby d39_50) rfl rfl ?_
    exact kt
  have S_67 : Keep h27 h63 [a0_] := ((S_49.ext E53).wr W63 (Or.inl mI0))
  have c68 := (((F28.ext E35).other W45 (Or.inr (slot_ne (Or.inr (hw _ tw301)) (Or.inr (hw _ tw303)) (by decide) (t := (.array (.array .int))) (t' := (.array (.array .int))) (by decide) (by decide)))).ext E53).other W63 (Or.inr (slot_ne (Or.inr (hw _ tw301)) (Or.inr (hw _ tw306)) (by decide) (t := (.array (.array .int))) (t' := (.array .int)) (by decide) (by decide)))
  obtain ⟨T69, X69, e69, st69⟩ := getF X63 hx hZ hown (host := "") (Or.inl (hw _ tw300)) Via.refl e63 c68 (g := (mkF m 51 #[SR a0_, SR a1_, SI 0, .unset] [(.ref a0_), (.int 0)])) rfl rfl (hb hby d39_51)
  refine Go.st st69 ?_
  have S_71 := (Keep.refl h18 [a0_]).wr W27 (Or.inl mI0)
  have S_72 : Keep h18 h63 [a0_] := (S_71.trans S_67 (allS (Or.inl mI0) all0))
  have o73 : a0_ < b18 := Nat.lt_of_lt_of_le E0.lt (Nat.le_trans (Keep.of_wr W11).1 lb19)
  have ne74 : a0_ ≠ b18 := Nat.ne_of_lt o73
  have c75 := V24.keep S_72 (ninS (Ne.symm ne74) nin0)
  obtain ⟨cl70, Ar70, -, S70, M70, -, -⟩ := id c75
  refine Go.st (t' := T69.setTop (mkF m 124 #[SR a0_, SR a1_, SI 0, .unset] [])) (fun target kt => ?_) ?_
  · refine X69.arraylength hx (by rw [e69]; exact Ar70.1) (State.isArrayOf_alike hZ.alike Ar70.2.1) (g := (mkF m 54 #[SR a0_, SR a1_, SI 0, .unset] [(.ref b18), (.int 0)])) rfl rfl (hb hby d39_54) _ ?_
    rw [len_of S70 M70]
    refine XS.icmpYes X69.here hx rfl (pc0 := 55) (pc' := 124) rfl (hb hby d39_55) rfl (flt (by decide : ¬ ((0 : Int32) < (0 : Int32)))).2.1 (by decide) (by decide) ?_
    exact kt
  have c76 := c62.wr W63
  refine Go.ret X69 (v := none) (fun _ => rfl) hlk (fun fs hr => X69.returnOut hx hret (hb hby d39_124) hr) ?_ (by decide) (by decide)
  show Q39_0 Z a0_ a1_ we wl wle kle wd kd h0 n0 _ T69.heap _
  rw [e69]
  exact ⟨b18, k18, rfl, N63, K65, c76, c68, c75⟩
theorem d39_79 : decode zc0 79 = .ok (.istore_n 3, 1) := by decide +kernel
theorem d39_80 : decode zc0 80 = .ok (.aload_n 0, 1) := by decide +kernel
theorem d39_81 : decode zc0 81 = .ok (.getfield 21, 3) := by decide +kernel
theorem d39_84 : decode zc0 84 = .ok (.iload_n 2, 1) := by decide +kernel
theorem d39_85 : decode zc0 85 = .ok (.iload_n 3, 1) := by decide +kernel
theorem d39_86 : decode zc0 86 = .ok (.newarray .int, 2) := by decide +kernel
theorem d39_88 : decode zc0 88 = .ok (.aastore, 1) := by decide +kernel
theorem d39_89 : decode zc0 89 = .ok (.aload_n 0, 1) := by decide +kernel
theorem d39_90 : decode zc0 90 = .ok (.getfield 25, 3) := by decide +kernel
theorem d39_93 : decode zc0 93 = .ok (.iload_n 2, 1) := by decide +kernel
theorem d39_94 : decode zc0 94 = .ok (.iload_n 3, 1) := by decide +kernel
theorem d39_95 : decode zc0 95 = .ok (.newarray .int, 2) := by decide +kernel
theorem d39_97 : decode zc0 97 = .ok (.aastore, 1) := by decide +kernel
theorem d39_98 : decode zc0 98 = .ok (.aload_n 0, 1) := by decide +kernel
theorem d39_99 : decode zc0 99 = .ok (.getfield 21, 3) := by decide +kernel
theorem d39_102 : decode zc0 102 = .ok (.iload_n 2, 1) := by decide +kernel
theorem d39_103 : decode zc0 103 = .ok (.aaload, 1) := by decide +kernel
theorem d39_104 : decode zc0 104 = .ok (.iconst (-1), 1) := by decide +kernel
theorem d39_105 : decode zc0 105 = .ok (.invokestatic 47, 3) := by decide +kernel
theorem tw342 : (Cond.methodLink sq5 47 ⟨sq19, "fill", "([II)V"⟩) ∈ tables_1 := mAt 342 rfl
theorem tw344 : (Cond.code ⟨sq19, "fill", "([II)V"⟩ jdk_65_method_103_code 4 (Option.none : Option Jvm.ClassFile.FieldType)) ∈ tables_1 := mAt 344 rfl
theorem pd20 : parseMethodDescriptor "([II)V" = some ⟨[(.array .int), .int], none⟩ := by decide +kernel
theorem tw343 : (Cond.static ⟨sq19, "fill", "([II)V"⟩) ∈ tables_1 := mAt 343 rfl
theorem d39_108 : decode zc0 108 = .ok (.aload_n 0, 1) := by decide +kernel
theorem d39_109 : decode zc0 109 = .ok (.getfield 25, 3) := by decide +kernel
theorem d39_112 : decode zc0 112 = .ok (.iload_n 2, 1) := by decide +kernel
theorem d39_113 : decode zc0 113 = .ok (.aaload, 1) := by decide +kernel
theorem d39_114 : decode zc0 114 = .ok (.iconst (-1), 1) := by decide +kernel
theorem d39_115 : decode zc0 115 = .ok (.invokestatic 47, 3) := by decide +kernel
theorem d39_118 : decode zc0 118 = .ok (.iinc 2 1, 3) := by decide +kernel
theorem d39_121 : decode zc0 121 = .ok (.goto (-72), 3) := by decide +kernel
theorem d39_58 : decode zc0 58 = .ok (.aload_n 1, 1) := by decide +kernel
theorem d39_59 : decode zc0 59 = .ok (.iload_n 2, 1) := by decide +kernel
theorem d39_60 : decode zc0 60 = .ok (.invokeinterface 31 2, 5) := by decide +kernel
theorem tw313 : (Cond.methodLink sq5 31 ⟨sq3, "get", sq16⟩) ∈ tables_1 := mAt 313 rfl
theorem d39_65 : decode zc0 65 = .ok (.checkcast 35, 3) := by decide +kernel
theorem tw314 : (Cond.classLink sq5 35 sq9) ∈ tables_1 := mAt 314 rfl
theorem d39_68 : decode zc0 68 = .ok (.invokevirtual 37, 3) := by decide +kernel
theorem tw316 : (Cond.methodLink sq5 37 ⟨sq9, "selectedPlan", sq37⟩) ∈ tables_1 := mAt 316 rfl
theorem tw320 : (Cond.code ⟨sq9, "selectedPlan", sq37⟩ prog_45_method_5_code 1 (Option.some (FieldType.object sq4))) ∈ tables_1 := mAt 320 rfl
theorem tw274 : (Cond.initialized sq9) ∈ tables_1 := mAt 274 rfl
theorem pd21 : parseMethodDescriptor "()Lcom/example/count_calibrated_demand/countcalibrateddemand/Plan;" = some ⟨[], some (.object "com/example/count_calibrated_demand/countcalibrateddemand/Plan")⟩ := by decide +kernel
theorem tw319 : (Cond.selects sq9 ⟨sq9, "selectedPlan", sq37⟩ ⟨sq9, "selectedPlan", sq37⟩) ∈ tables_1 := mAt 319 rfl
theorem tw317 : (Cond.declares ⟨sq9, "selectedPlan", sq37⟩) ∈ tables_1 := mAt 317 rfl
theorem tw318 : (Cond.instanceMethod ⟨sq9, "selectedPlan", sq37⟩) ∈ tables_1 := mAt 318 rfl
theorem d39_71 : decode zc0 71 = .ok (.invokevirtual 41, 3) := by decide +kernel
theorem tw330 : (Cond.methodLink sq5 41 ⟨sq4, "legs", sq25⟩) ∈ tables_1 := mAt 330 rfl
theorem tw334 : (Cond.code ⟨sq4, "legs", sq25⟩ prog_46_method_4_code 1 (Option.some (FieldType.object sq3))) ∈ tables_1 := mAt 334 rfl
theorem tw103 : (Cond.initialized sq4) ∈ tables_1 := mAt 103 rfl
theorem tw333 : (Cond.selects sq4 ⟨sq4, "legs", sq25⟩ ⟨sq4, "legs", sq25⟩) ∈ tables_1 := mAt 333 rfl
theorem tw331 : (Cond.declares ⟨sq4, "legs", sq25⟩) ∈ tables_1 := mAt 331 rfl
theorem tw332 : (Cond.instanceMethod ⟨sq4, "legs", sq25⟩) ∈ tables_1 := mAt 332 rfl
theorem d39_74 : decode zc0 74 = .ok (.invokeinterface 13 1, 5) := by decide +kernel
theorem tw349 : (Cond.code ⟨sq7, "size", "()I"⟩ jdk_45_method_3_code 1 (Option.some FieldType.int)) ∈ tables_1 := mAt 349 rfl
theorem tw345 : (Cond.selects sq7 ⟨sq3, "size", "()I"⟩ ⟨sq7, "size", "()I"⟩) ∈ tables_1 := mAt 345 rfl
theorem tw346 : (Cond.instanceMethod ⟨sq7, "size", "()I"⟩) ∈ tables_1 := mAt 346 rfl
theorem tw347 : (Cond.publicMethod ⟨sq7, "size", "()I"⟩) ∈ tables_1 := mAt 347 rfl
theorem tw348 : (Cond.unhidden sq7 "size" "()I") ∈ tables_1 := mAt 348 rfl
theorem tw340 : (Cond.code ⟨sq6, "size", "()I"⟩ jdk_44_method_3_code 1 (Option.some FieldType.int)) ∈ tables_1 := mAt 340 rfl
theorem tw335 : (Cond.selects sq6 ⟨sq3, "size", "()I"⟩ ⟨sq6, "size", "()I"⟩) ∈ tables_1 := mAt 335 rfl
theorem tw336 : (Cond.instanceMethod ⟨sq6, "size", "()I"⟩) ∈ tables_1 := mAt 336 rfl
theorem tw337 : (Cond.publicMethod ⟨sq6, "size", "()I"⟩) ∈ tables_1 := mAt 337 rfl
theorem tw338 : (Cond.unhidden sq6 "size" "()I") ∈ tables_1 := mAt 338 rfl
theorem tw339 : (Cond.castable sq6 sq3) ∈ tables_1 := mAt 339 rfl
def Q39_1 (Z : State) (a0_ : Addr) (a1_ : Addr) (we : Addr) (wl : Addr) (wle : Addr) (kle : ClassId) (y0 : Addr) (y1 : Addr) (y2 : Addr) (l1 : Addr) (l2 : Addr) (xl : Addr) (q0 : Addr) (r0 : Addr) (re0 : Addr) (kr0 : ClassId) (k0 : Int32) (ed : Addr) (ke : ClassId) (h0 : Heap) (n0 : Nat) (v : Option Value) (h : Heap) (L : List Loc) : Prop := ∃ (dp : Addr) (kd_ : ClassId) (d0 : Addr) (c0 : Cell), v = none ∧ Fr n0 L ∧ Keep h0 h [a0_] ∧ Exa Z h a0_ sq5 ∧ Fld Z h a0_ sq5 "departures" "[[I" (.ref dp) ∧ Arv Z h dp kd_ (.array .int) (1 : Int32) [(.ref d0)] .null ∧ Arr Z h d0 c0 .int ∧ c0.slots.size = k0.toNatClampNeg
theorem rm39_1 (l : Launch) (Z : State) (a0 : Array Value) (hw : ∀ d ∈ tables_1, d.before a0 Z = true) (ws : List Jvm.Cond) (a0_ : Addr) (a1_ : Addr) (we : Addr) (wl : Addr) (wle : Addr) (kle : ClassId) (y0 : Addr) (y1 : Addr) (y2 : Addr) (l1 : Addr) (l2 : Addr) (xl : Addr) (q0 : Addr) (r0 : Addr) (re0 : Addr) (kr0 : ClassId) (k0 : Int32) (ed : Addr) (ke : ClassId) (h0 : Heap) (n0 : Nat) (O0 : Old Z n0 h0) (S_EM : Sta Z Z.heap sq14 "EMPTY" sq12 (.ref we)) (E_wl : Exa Z Z.heap wl sq7) (F_wl : Fld Z Z.heap wl sq7 "elements" sq2 (.ref wle)) (V_wle : Arv Z Z.heap wle kle (.object sq1) (0 : Int32) [] .null) (E0 : Exa Z h0 a0_ sq5) (g0 : n0 ≤ a0_) (F_persons : Fld Z h0 a0_ sq5 "persons" sq11 .null) (F_departures : Fld Z h0 a0_ sq5 "departures" "[[I" .null) (F_arrivals : Fld Z h0 a0_ sq5 "arrivals" "[[I" .null) (F_departed : Fld Z h0 a0_ sq5 "departed" "[I" .null) (E_l : Exa Z h0 a1_ sq0) (Fd_l : Fld Z h0 a1_ sq0 sq10 sq2 (.ref ed)) (Fs_l : Fld Z h0 a1_ sq0 "size" "I" (.int 1)) (Ed_l : Exa Z h0 ed sq2) (Vd_l : Arv Z h0 ed ke (.object sq1) (10 : Int32) [(.ref q0), .null, .null, .null] .null) (E_q0 : Exa Z h0 q0 sq9) (Fp_q0 : Fld Z h0 q0 sq9 "plans" sq11 (.ref r0)) (Fs_q0 : Fld Z h0 q0 sq9 "selected" "I" (.int k0)) (E_r0 : Exa Z h0 r0 sq7) (F_r0 : Fld Z h0 r0 sq7 "elements" sq2 (.ref re0)) (V_re0 : Arv Z h0 re0 kr0 (.object sq1) (3 : Int32) [(.ref y0), (.ref y1), (.ref y2)] .null) (hk0_0 : ¬ k0 < 0) (hk2_0 : k0 < (3 : Int32)) (E_y0 : Exa Z h0 y0 sq4) (E_y1 : Exa Z h0 y1 sq4) (E_y2 : Exa Z h0 y2 sq4) (Fl_y0 : Fld Z h0 y0 sq4 "legs" sq11 (.ref wl)) (Fl_y1 : Fld Z h0 y1 sq4 "legs" sq11 (.ref l1)) (Fl_y2 : Fld Z h0 y2 sq4 "legs" sq11 (.ref l2)) (E_l1 : Exa Z h0 l1 sq6) (E_l2 : Exa Z h0 l2 sq6) (F1_l1 : Fld Z h0 l1 sq6 "e1" sq12 (.ref we)) (F1_l2 : Fld Z h0 l2 sq6 "e1" sq12 (.ref xl)) (nex : xl ≠ we) (ne_a1_ : a1_ ≠ a0_) (ne_ed : ed ≠ a0_) (ne_y0 : y0 ≠ a0_) (ne_y1 : y1 ≠ a0_) (ne_y2 : y2 ≠ a0_) (ne_l1 : l1 ≠ a0_) (ne_l2 : l2 ≠ a0_) (ne_q0 : q0 ≠ a0_) (ne_r0 : r0 ≠ a0_) (ne_re0 : re0 ≠ a0_) :
    Met l Z ws mm6 prog_32_method_1_code 4 none (Rm 3 5 7 40) #[(.ref a0_), (.ref a1_)] h0 (Q39_1 Z a0_ a1_ we wl wle kle y0 y1 y2 l1 l2 xl q0 r0 re0 kr0 k0 ed ke h0 n0) := by
  refine Met.enter (L0 := #[SR a0_, SR a1_, .unset, .unset]) (plainFor_of_name pn444) (fun m => ef39_0 m a0_ a1_) ?_
  intro p e s m below meth c s₁ hx hby hml hown hnm hret hlk hZ X0 e0
  have N0 := Fr.nil n0
  have Z0 := own_z0 O0
  have K0 : Keep h0 h0 [a0_] := Keep.refl h0 _
  refine Go.st (t' := s₁.setTop (mkF m 1 #[SR a0_, SR a1_, .unset, .unset] [(.ref a0_)])) (fun target kt => ?_) ?_
  · refine XS.aloadN X0.here hx rfl (hb hby d39_0) rfl rfl ?_
    exact kt
  obtain ⟨T10, X10, e10, st10⟩ := initO X0 hx hZ hown (hw _ tw294) (hw _ tw24) (hw _ tw25) e0 (g := (mkF m 1 #[SR a0_, SR a1_, .unset, .unset] [(.ref a0_)])) rfl (by rw [hml]; rfl) rfl (hb hby d39_1) (by decide) (W := 0) (by show 2 * 0 + _ ≤ _; exact Nat.le_of_eq rfl) (by decide)
  refine Go.st st10 ?_
  refine Go.st (t' := T10.setTop (mkF m 6 #[SR a0_, SR a1_, .unset, .unset] [(.ref a1_), (.ref a0_)])) (fun target kt => ?_) ?_
  · refine XS.aloadN X10.here hx rfl (hb hby d39_4) rfl rfl ?_
    refine XS.aloadN X10.here hx rfl (hb hby d39_5) rfl rfl ?_
    exact kt
  obtain ⟨T11, h11, X11, e11, W11, st11⟩ := putF X10 hx hZ hown (host := "") (Or.inl (hw _ tw295)) Via.refl e10 F_persons E0 (Or.inr ⟨(hw _ tw296), rfl, hnm⟩) (hw _ tw289) (ty := (.object sq3)) (by decide) rfl rfl (g := (mkF m 6 #[SR a0_, SR a1_, .unset, .unset] [(.ref a1_), (.ref a0_)])) rfl rfl (hb hby d39_6)
  have F12 : Fld Z h11 a0_ sq5 "persons" sq11 (.ref a1_) := F_persons.same W11
  have K13 := K0.wr W11 (Or.inl mI0)
  have O14 := O0.wr W11 g0
  have N11 := Fr.snoc X11 N0 g0
  refine Go.st st11 ?_
  refine Go.st (t' := T11.setTop (mkF m 11 #[SR a0_, SR a1_, .unset, .unset] [(.ref a1_), (.ref a0_)])) (fun target kt => ?_) ?_
  · refine XS.aloadN X11.here hx rfl (hb hby d39_9) rfl rfl ?_
    refine XS.aloadN X11.here hx rfl (hb hby d39_10) rfl rfl ?_
    exact kt
  have c15 := Fs_l.keep K13 (ninS ne_a1_ nin0)
  have c17 := E_l.keep K13
  refine Go.cps (own_cf (W := 1) (b := a1_) (argsL := []) (rest := [(.ref a0_)]) X11 hx hZ hown (hw _ tw297) (hw _ tw118) (hw _ tw119) (hw _ tw120) (hw _ tw121) (hw _ tw122) (hw _ tw123) (hw _ tw115) (hw _ tw124) (hw _ tw47) (by decide) e11 c17 (rm16 l Z a0 hw [] a1_ (1 : Int32) h11 n0 O14  c15) rfl (by rw [hml]; rfl) (lenOf pd18 rfl) rfl (Nat.le_of_eq rfl) (hb hby d39_11) rfl (by decide)) ?_
  rintro T16 _ L16 X16 ⟨rfl, Nq16, eq16⟩
  have N16 := Fr.app N11 Nq16
  obtain ⟨T18, h18, k18, X18, e18, E18, A18, B18, O'18, st18⟩ := newRA X16 hx hZ hown (by decide) (hw _ tw298) (hw _ tw299) eq16 (g := (mkF m 16 #[SR a0_, SR a1_, .unset, .unset] [(.int 1), (.ref a0_)])) rfl (hb hby d39_16) rfl (by decide) (cap := 1) (by decide) (by decide) (by decide) (by decide) (ad := "[[I") (by decide)
  obtain ⟨b18, g18⟩ : ∃ z, z = h11.size := ⟨_, rfl⟩
  rw [← g18] at A18 B18 st18
  have lb19 : h11.size ≤ b18 := Nat.le_of_eq g18.symm
  have sz20 : h0.size ≤ b18 := Nat.le_trans K13.1 lb19
  have g21 : n0 ≤ b18 := Nat.le_trans Z0 sz20
  have K22 := K13.ext E18
  have O23 := O14.ext E18
  have V24 : Arv Z h18 b18 k18 (.array .int) (1 : Int32) [.null] .null := (Arv.new A18 (by decide)).pad (pad_rep [] .null 1)
  refine Go.st st18 ?_
  have c25 := (F_departures.other W11 (Or.inr (slot_ne (Or.inr (hw _ tw301)) (Or.inr (hw _ tw296)) (by decide) (t := (.array (.array .int))) (t' := (.object sq3)) (by decide) (by decide)))).ext E18
  have c26 := E0.keep K22
  obtain ⟨T27, h27, X27, e27, W27, st27⟩ := putF X18 hx hZ hown (host := "") (Or.inl (hw _ tw300)) Via.refl e18 c25 c26 (Or.inr ⟨(hw _ tw301), rfl, hnm⟩) (hw _ tw289) (ty := (.array (.array .int))) (by decide) rfl rfl (g := (mkF m 19 #[SR a0_, SR a1_, .unset, .unset] [(.ref b18), (.ref a0_)])) rfl rfl (hb hby d39_19)
  have F28 : Fld Z h27 a0_ sq5 "departures" "[[I" (.ref b18) := c25.same W27
  have K29 := K22.wr W27 (Or.inl mI0)
  have O30 := O23.wr W27 g0
  have N27 := Fr.snoc X27 N16 g0
  refine Go.st st27 ?_
  refine Go.st (t' := T27.setTop (mkF m 24 #[SR a0_, SR a1_, .unset, .unset] [(.ref a1_), (.ref a0_)])) (fun target kt => ?_) ?_
  · refine XS.aloadN X27.here hx rfl (hb hby d39_22) rfl rfl ?_
    refine XS.aloadN X27.here hx rfl (hb hby d39_23) rfl rfl ?_
    exact kt
  have S_31 : Keep h11 h27 [a0_] := (((Keep.refl h11 [a0_]).ext E18).wr W27 (Or.inl mI0))
  have c32 := c15.keep S_31 (ninS ne_a1_ nin0)
  have c34 := c17.keep S_31
  refine Go.cps (own_cf (W := 1) (b := a1_) (argsL := []) (rest := [(.ref a0_)]) X27 hx hZ hown (hw _ tw297) (hw _ tw118) (hw _ tw119) (hw _ tw120) (hw _ tw121) (hw _ tw122) (hw _ tw123) (hw _ tw115) (hw _ tw124) (hw _ tw47) (by decide) e27 c34 (rm16 l Z a0 hw [] a1_ (1 : Int32) h27 n0 O30  c32) rfl (by rw [hml]; rfl) (lenOf pd18 rfl) rfl (Nat.le_of_eq rfl) (hb hby d39_24) rfl (by decide)) ?_
  rintro T33 _ L33 X33 ⟨rfl, Nq33, eq33⟩
  have N33 := Fr.app N27 Nq33
  obtain ⟨T35, h35, k35, X35, e35, E35, A35, B35, O'35, st35⟩ := newRA X33 hx hZ hown (by decide) (hw _ tw298) (hw _ tw299) eq33 (g := (mkF m 29 #[SR a0_, SR a1_, .unset, .unset] [(.int 1), (.ref a0_)])) rfl (hb hby d39_29) rfl (by decide) (cap := 1) (by decide) (by decide) (by decide) (by decide) (ad := "[[I") (by decide)
  obtain ⟨b35, g35⟩ : ∃ z, z = h27.size := ⟨_, rfl⟩
  rw [← g35] at A35 B35 st35
  have lb36 : h27.size ≤ b35 := Nat.le_of_eq g35.symm
  have sz37 : h0.size ≤ b35 := Nat.le_trans K29.1 lb36
  have g38 : n0 ≤ b35 := Nat.le_trans Z0 sz37
  have K39 := K29.ext E35
  have O40 := O30.ext E35
  have V41 : Arv Z h35 b35 k35 (.array .int) (1 : Int32) [.null] .null := (Arv.new A35 (by decide)).pad (pad_rep [] .null 1)
  refine Go.st st35 ?_
  have c42 := (((F_arrivals.other W11 (Or.inr (slot_ne (Or.inr (hw _ tw303)) (Or.inr (hw _ tw296)) (by decide) (t := (.array (.array .int))) (t' := (.object sq3)) (by decide) (by decide)))).ext E18).other W27 (Or.inr (slot_ne (Or.inr (hw _ tw303)) (Or.inr (hw _ tw301)) (by decide) (t := (.array (.array .int))) (t' := (.array (.array .int))) (by decide) (by decide)))).ext E35
  have S_43 : Keep h18 h35 [a0_] := (((Keep.refl h18 [a0_]).wr W27 (Or.inl mI0)).ext E35)
  have c44 := c26.keep S_43
  obtain ⟨T45, h45, X45, e45, W45, st45⟩ := putF X35 hx hZ hown (host := "") (Or.inl (hw _ tw302)) Via.refl e35 c42 c44 (Or.inr ⟨(hw _ tw303), rfl, hnm⟩) (hw _ tw289) (ty := (.array (.array .int))) (by decide) rfl rfl (g := (mkF m 32 #[SR a0_, SR a1_, .unset, .unset] [(.ref b35), (.ref a0_)])) rfl rfl (hb hby d39_32)
  have F46 : Fld Z h45 a0_ sq5 "arrivals" "[[I" (.ref b35) := c42.same W45
  have K47 := K39.wr W45 (Or.inl mI0)
  have O48 := O40.wr W45 g0
  have N45 := Fr.snoc X45 N33 g0
  refine Go.st st45 ?_
  refine Go.st (t' := T45.setTop (mkF m 37 #[SR a0_, SR a1_, .unset, .unset] [(.ref a1_), (.ref a0_)])) (fun target kt => ?_) ?_
  · refine XS.aloadN X45.here hx rfl (hb hby d39_35) rfl rfl ?_
    refine XS.aloadN X45.here hx rfl (hb hby d39_36) rfl rfl ?_
    exact kt
  have S_49 : Keep h27 h45 [a0_] := (((Keep.refl h27 [a0_]).ext E35).wr W45 (Or.inl mI0))
  have c50 := c32.keep S_49 (ninS ne_a1_ nin0)
  have c52 := c34.keep S_49
  refine Go.cps (own_cf (W := 1) (b := a1_) (argsL := []) (rest := [(.ref a0_)]) X45 hx hZ hown (hw _ tw297) (hw _ tw118) (hw _ tw119) (hw _ tw120) (hw _ tw121) (hw _ tw122) (hw _ tw123) (hw _ tw115) (hw _ tw124) (hw _ tw47) (by decide) e45 c52 (rm16 l Z a0 hw [] a1_ (1 : Int32) h45 n0 O48  c50) rfl (by rw [hml]; rfl) (lenOf pd18 rfl) rfl (Nat.le_of_eq rfl) (hb hby d39_37) rfl (by decide)) ?_
  rintro T51 _ L51 X51 ⟨rfl, Nq51, eq51⟩
  have N51 := Fr.app N45 Nq51
  obtain ⟨T53, h53, k53, X53, e53, E53, A53, B53, st53⟩ := newPE (aty := .int) X51 hx hZ (hw _ tw304) eq51 (g := (mkF m 42 #[SR a0_, SR a1_, .unset, .unset] [(.int 1), (.ref a0_)])) rfl (hb hby d39_42) rfl (by decide) (cap := 1) (by decide) (by decide) (by decide) (by decide) (ad := "[I") (by decide)
  obtain ⟨b53, g53⟩ : ∃ z, z = h45.size := ⟨_, rfl⟩
  rw [← g53] at A53 B53 st53
  have lb54 : h45.size ≤ b53 := Nat.le_of_eq g53.symm
  have sz55 : h0.size ≤ b53 := Nat.le_trans K47.1 lb54
  have g56 : n0 ≤ b53 := Nat.le_trans Z0 sz55
  have K57 := K47.ext E53
  have O58 := O48.ext E53
  have V59 : Arv Z h53 b53 k53 .int (1 : Int32) [(.int 0)] (.int 0) := (Arv.new A53 (by decide)).pad (pad_rep [] (.int 0) 1)
  refine Go.st st53 ?_
  have c60 := (((((F_departed.other W11 (Or.inr (slot_ne (Or.inr (hw _ tw306)) (Or.inr (hw _ tw296)) (by decide) (t := (.array .int)) (t' := (.object sq3)) (by decide) (by decide)))).ext E18).other W27 (Or.inr (slot_ne (Or.inr (hw _ tw306)) (Or.inr (hw _ tw301)) (by decide) (t := (.array .int)) (t' := (.array (.array .int))) (by decide) (by decide)))).ext E35).other W45 (Or.inr (slot_ne (Or.inr (hw _ tw306)) (Or.inr (hw _ tw303)) (by decide) (t := (.array .int)) (t' := (.array (.array .int))) (by decide) (by decide)))).ext E53
  have S_61 : Keep h35 h53 [a0_] := (((Keep.refl h35 [a0_]).wr W45 (Or.inl mI0)).ext E53)
  have c62 := c44.keep S_61
  obtain ⟨T63, h63, X63, e63, W63, st63⟩ := putF X53 hx hZ hown (host := "") (Or.inl (hw _ tw305)) Via.refl e53 c60 c62 (Or.inr ⟨(hw _ tw306), rfl, hnm⟩) (hw _ tw289) (ty := (.array .int)) (by decide) rfl rfl (g := (mkF m 44 #[SR a0_, SR a1_, .unset, .unset] [(.ref b53), (.ref a0_)])) rfl rfl (hb hby d39_44)
  have F64 : Fld Z h63 a0_ sq5 "departed" "[I" (.ref b53) := c60.same W63
  have K65 := K57.wr W63 (Or.inl mI0)
  have O66 := O58.wr W63 g0
  have N63 := Fr.snoc X63 N51 g0
  refine Go.st st63 ?_
  refine Go.st (t' := T63.setTop (mkF m 51 #[SR a0_, SR a1_, SI 0, .unset] [(.ref a0_), (.int 0)])) (fun target kt => ?_) ?_
  · refine XS.iconst X63.here hx rfl (hb hby d39_47) ?_
    refine XS.istoreN X63.here hx rfl (hb hby d39_48) rfl (l' := #[SR a0_, SR a1_, SI 0, .unset]) rfl ?_
    refine XS.iloadN X63.here hx rfl (hb hby d39_49) rfl ?_
    refine XS.aloadN X63.here hx rfl (hb hby d39_50) rfl rfl ?_
    exact kt
  have S_67 : Keep h27 h63 [a0_] := ((S_49.ext E53).wr W63 (Or.inl mI0))
  have c68 := (((F28.ext E35).other W45 (Or.inr (slot_ne (Or.inr (hw _ tw301)) (Or.inr (hw _ tw303)) (by decide) (t := (.array (.array .int))) (t' := (.array (.array .int))) (by decide) (by decide)))).ext E53).other W63 (Or.inr (slot_ne (Or.inr (hw _ tw301)) (Or.inr (hw _ tw306)) (by decide) (t := (.array (.array .int))) (t' := (.array .int)) (by decide) (by decide)))
  obtain ⟨T69, X69, e69, st69⟩ := getF X63 hx hZ hown (host := "") (Or.inl (hw _ tw300)) Via.refl e63 c68 (g := (mkF m 51 #[SR a0_, SR a1_, SI 0, .unset] [(.ref a0_), (.int 0)])) rfl rfl (hb hby d39_51)
  refine Go.st st69 ?_
  have S_71 := (Keep.refl h18 [a0_]).wr W27 (Or.inl mI0)
  have S_72 : Keep h18 h63 [a0_] := (S_71.trans S_67 (allS (Or.inl mI0) all0))
  have o73 : a0_ < b18 := Nat.lt_of_lt_of_le E0.lt (Nat.le_trans (Keep.of_wr W11).1 lb19)
  have ne74 : a0_ ≠ b18 := Nat.ne_of_lt o73
  have c75 := V24.keep S_72 (ninS (Ne.symm ne74) nin0)
  obtain ⟨cl70, Ar70, -, S70, M70, -, -⟩ := id c75
  refine Go.st (t' := T69.setTop (mkF m 58 #[SR a0_, SR a1_, SI 0, .unset] [])) (fun target kt => ?_) ?_
  · refine X69.arraylength hx (by rw [e69]; exact Ar70.1) (State.isArrayOf_alike hZ.alike Ar70.2.1) (g := (mkF m 54 #[SR a0_, SR a1_, SI 0, .unset] [(.ref b18), (.int 0)])) rfl rfl (hb hby d39_54) _ ?_
    rw [len_of S70 M70]
    refine XS.icmpNo X69.here hx rfl (hb hby d39_55) rfl (tlt (by decide : (0 : Int32) < (1 : Int32))).2.1 ?_
    exact kt
  have J76 : ∀ (T' : State) (L' : List Loc) (X' : Stand p l e (Rm 3 5 7 40) s m #[(.ref a0_), (.ref a1_)] below meth c T' L' 3 3) (N' : Fr n0 L') (e' : T'.heap = h63), Go p e below s (Q39_1 Z a0_ a1_ we wl wle kle y0 y1 y2 l1 l2 xl q0 r0 re0 kr0 k0 ed ke h0 n0) (Rm 3 5 7 40).cells (Rm 3 5 7 40).slots (T'.setTop (mkF m 79 #[SR a0_, SR a1_, SI 0, .unset] [(.int k0)])) := by
    intro T77 L77 X77 N77 e77
    refine Go.st (t' := T77.setTop (mkF m 81 #[SR a0_, SR a1_, SI 0, SI k0] [(.ref a0_)])) (fun target kt => ?_) ?_
    · refine XS.istoreN X77.here hx rfl (hb hby d39_79) rfl (l' := #[SR a0_, SR a1_, SI 0, SI k0]) rfl ?_
      refine XS.aloadN X77.here hx rfl (hb hby d39_80) rfl rfl ?_
      exact kt
    obtain ⟨T78, X78, e78, st78⟩ := getF X77 hx hZ hown (host := "") (Or.inl (hw _ tw300)) Via.refl e77 c68 (g := (mkF m 81 #[SR a0_, SR a1_, SI 0, SI k0] [(.ref a0_)])) rfl rfl (hb hby d39_81)
    refine Go.st st78 ?_
    refine Go.st (t' := T78.setTop (mkF m 86 #[SR a0_, SR a1_, SI 0, SI k0] [(.int k0), (.int 0), (.ref b18)])) (fun target kt => ?_) ?_
    · refine XS.iloadN X78.here hx rfl (hb hby d39_84) rfl ?_
      refine XS.iloadN X78.here hx rfl (hb hby d39_85) rfl ?_
      exact kt
    obtain ⟨T79, h79, k79, X79, e79, E79, A79, B79, st79⟩ := newPE (aty := .int) X78 hx hZ (hw _ tw304) e78 (g := (mkF m 86 #[SR a0_, SR a1_, SI 0, SI k0] [(.int k0), (.int 0), (.ref b18)])) rfl (hb hby d39_86) rfl hk0_0 (cap := 2) (own_cap2 hk0_0 hk2_0) (by decide) (by decide) (by decide) (ad := "[I") (by decide)
    obtain ⟨b79, g79⟩ : ∃ z, z = h63.size := ⟨_, rfl⟩
    rw [← g79] at A79 B79 st79
    have lb80 : h63.size ≤ b79 := Nat.le_of_eq g79.symm
    have sz81 : h0.size ≤ b79 := Nat.le_trans K65.1 lb80
    have g82 : n0 ≤ b79 := Nat.le_trans Z0 sz81
    have K83 := K65.ext E79
    have O84 := O66.ext E79
    have V85 : Arv Z h79 b79 k79 .int k0 [] (.int 0) := Arv.new A79 hk0_0
    refine Go.st st79 ?_
    have c86 := c75.ext E79
    obtain ⟨cl87, Ar87, q87, S87, M87, H87, G87⟩ := id c86
    have hin87 : ¬ ((0 : Int32) < 0 ∨ cl87.slots.size ≤ ((0 : Int32)).toNatClampNeg) := inb_of S87 ⟨by decide, by decide⟩
    obtain ⟨T87, h87, X87, e87, W87, st87⟩ := stR X79 hx hZ e79 Ar87 (j := (0 : Int32)) hin87 rfl (Sto.ofVA Ar87 q87 O'18 (Ins.self B79)) (g := (mkF m 88 #[SR a0_, SR a1_, SI 0, SI k0] [(.ref b79), (.int 0), (.ref b18)])) rfl rfl (hb hby d39_88)
    have V88 : Arv Z h87 b18 k18 (.array .int) (1 : Int32) [(.ref b79)] .null := Arv.set Ar87 q87 S87 M87 H87 G87 rfl W87 0 rfl (Nat.le_of_ble_eq_true rfl)
    have K89 := K83.wr W87 (Or.inr sz20)
    have O90 := O84.wr W87 g21
    have N87 := Fr.snoc X87 N77 g21
    refine Go.st st87 ?_
    refine Go.st (t' := T87.setTop (mkF m 90 #[SR a0_, SR a1_, SI 0, SI k0] [(.ref a0_)])) (fun target kt => ?_) ?_
    · refine XS.aloadN X87.here hx rfl (hb hby d39_89) rfl rfl ?_
      exact kt
    have S_91 : Keep h45 h87 [a0_, b18] := (((((Keep.refl h45 [a0_, b18]).ext E53).wr W63 (Or.inl mI0)).ext E79).wr W87 (Or.inl mI1))
    have c92 := (((F46.ext E53).other W63 (Or.inr (slot_ne (Or.inr (hw _ tw303)) (Or.inr (hw _ tw306)) (by decide) (t := (.array (.array .int))) (t' := (.array .int)) (by decide) (by decide)))).ext E79).other W87 (Or.inl ne74)
    obtain ⟨T93, X93, e93, st93⟩ := getF X87 hx hZ hown (host := "") (Or.inl (hw _ tw302)) Via.refl e87 c92 (g := (mkF m 90 #[SR a0_, SR a1_, SI 0, SI k0] [(.ref a0_)])) rfl rfl (hb hby d39_90)
    refine Go.st st93 ?_
    refine Go.st (t' := T93.setTop (mkF m 95 #[SR a0_, SR a1_, SI 0, SI k0] [(.int k0), (.int 0), (.ref b35)])) (fun target kt => ?_) ?_
    · refine XS.iloadN X93.here hx rfl (hb hby d39_93) rfl ?_
      refine XS.iloadN X93.here hx rfl (hb hby d39_94) rfl ?_
      exact kt
    obtain ⟨T94, h94, k94, X94, e94, E94, A94, B94, st94⟩ := newPE (aty := .int) X93 hx hZ (hw _ tw304) e93 (g := (mkF m 95 #[SR a0_, SR a1_, SI 0, SI k0] [(.int k0), (.int 0), (.ref b35)])) rfl (hb hby d39_95) rfl hk0_0 (cap := 2) (own_cap2 hk0_0 hk2_0) (by decide) (by decide) (by decide) (ad := "[I") (by decide)
    obtain ⟨b94, g94⟩ : ∃ z, z = h87.size := ⟨_, rfl⟩
    rw [← g94] at A94 B94 st94
    have lb95 : h87.size ≤ b94 := Nat.le_of_eq g94.symm
    have sz96 : h0.size ≤ b94 := Nat.le_trans K89.1 lb95
    have g97 : n0 ≤ b94 := Nat.le_trans Z0 sz96
    have K98 := K89.ext E94
    have O99 := O90.ext E94
    have V100 : Arv Z h94 b94 k94 .int k0 [] (.int 0) := Arv.new A94 hk0_0
    refine Go.st st94 ?_
    have S_101 : Keep h35 h94 [a0_, b18] := (((((((Keep.refl h35 [a0_, b18]).wr W45 (Or.inl mI0)).ext E53).wr W63 (Or.inl mI0)).ext E79).wr W87 (Or.inl mI1)).ext E94)
    have o102 : b18 < b35 := Nat.lt_of_lt_of_le V24.lt (Nat.le_trans (Keep.of_wr W27).1 lb36)
    have ne103 : b18 ≠ b35 := Nat.ne_of_lt o102
    have o104 : a0_ < b35 := Nat.lt_trans o73 o102
    have ne105 : a0_ ≠ b35 := Nat.ne_of_lt o104
    have c106 := V41.keep S_101 (ninS (Ne.symm ne105) (ninS (Ne.symm ne103) nin0))
    obtain ⟨cl107, Ar107, q107, S107, M107, H107, G107⟩ := id c106
    have hin107 : ¬ ((0 : Int32) < 0 ∨ cl107.slots.size ≤ ((0 : Int32)).toNatClampNeg) := inb_of S107 ⟨by decide, by decide⟩
    obtain ⟨T107, h107, X107, e107, W107, st107⟩ := stR X94 hx hZ e94 Ar107 (j := (0 : Int32)) hin107 rfl (Sto.ofVA Ar107 q107 O'35 (Ins.self B94)) (g := (mkF m 97 #[SR a0_, SR a1_, SI 0, SI k0] [(.ref b94), (.int 0), (.ref b35)])) rfl rfl (hb hby d39_97)
    have V108 : Arv Z h107 b35 k35 (.array .int) (1 : Int32) [(.ref b94)] .null := Arv.set Ar107 q107 S107 M107 H107 G107 rfl W107 0 rfl (Nat.le_of_ble_eq_true rfl)
    have K109 := K98.wr W107 (Or.inr sz37)
    have O110 := O99.wr W107 g38
    have N107 := Fr.snoc X107 N87 g38
    refine Go.st st107 ?_
    refine Go.st (t' := T107.setTop (mkF m 99 #[SR a0_, SR a1_, SI 0, SI k0] [(.ref a0_)])) (fun target kt => ?_) ?_
    · refine XS.aloadN X107.here hx rfl (hb hby d39_98) rfl rfl ?_
      exact kt
    have S_111 : Keep h63 h107 [b18, b35] := (((((Keep.refl h63 [b18, b35]).ext E79).wr W87 (Or.inl mI0)).ext E94).wr W107 (Or.inl mI1))
    have c112 := c68.keep S_111 (ninS ne74 (ninS ne105 nin0))
    obtain ⟨T113, X113, e113, st113⟩ := getF X107 hx hZ hown (host := "") (Or.inl (hw _ tw300)) Via.refl e107 c112 (g := (mkF m 99 #[SR a0_, SR a1_, SI 0, SI k0] [(.ref a0_)])) rfl rfl (hb hby d39_99)
    refine Go.st st113 ?_
    have S_114 : Keep h87 h107 [b35] := (((Keep.refl h87 [b35]).ext E94).wr W107 (Or.inl mI0))
    have c115 := V88.keep S_114 (ninS ne103 nin0)
    obtain ⟨cl116, Ar116, -, S116, M116, H116, -⟩ := id c115
    have hin116 : ¬ ((0 : Int32) < 0 ∨ cl116.slots.size ≤ ((0 : Int32)).toNatClampNeg) := inb_of S116 ⟨by decide, by decide⟩
    have hat116 : cl116.slots[((0 : Int32)).toNatClampNeg]? = some (.ref b79) := H116.at hin116 rfl
    refine Go.st (t' := T113.setTop (mkF m 105 #[SR a0_, SR a1_, SI 0, SI k0] [(.int (-1)), (.ref b79)])) (fun target kt => ?_) ?_
    · refine XS.iloadN X113.here hx rfl (hb hby d39_102) rfl ?_
      refine X113.aaload hx (j := (0 : Int32)) (v := (.ref b79)) (by rw [e113]; exact Ar116.1) (State.isArrayOf_alike hZ.alike Ar116.2.1) rfl Ar116.2.2 hin116 hat116 (g := (mkF m 103 #[SR a0_, SR a1_, SI 0, SI k0] [(.int 0), (.ref b18)])) rfl rfl (hb hby d39_103) _ ?_
      refine XS.iconst X113.here hx rfl (hb hby d39_104) ?_
      exact kt
    have S_117 := (Keep.refl h79 [b18, b35]).wr W87 (Or.inl mI0)
    have S_118 : Keep h79 h107 [b18, b35] := (S_117.trans S_114 (allS (Or.inl mI1) all0))
    have o119 : b35 < b53 := Nat.lt_of_lt_of_le V41.lt (Nat.le_trans (Keep.of_wr W45).1 lb54)
    have o120 : b53 < b79 := Nat.lt_of_lt_of_le V59.lt (Nat.le_trans (Keep.of_wr W63).1 lb80)
    have o121 : b35 < b79 := Nat.lt_trans o119 o120
    have ne122 : b35 ≠ b79 := Nat.ne_of_lt o121
    have o123 : b18 < b53 := Nat.lt_trans o102 o119
    have o124 : b18 < b79 := Nat.lt_trans o123 o120
    have ne125 : b18 ≠ b79 := Nat.ne_of_lt o124
    have c126 := V85.keep S_118 (ninS (Ne.symm ne125) (ninS (Ne.symm ne122) nin0))
    refine Go.cps (own_cs (W := 0) (argsL := [(.ref b79), (.int (-1))]) (rest := []) X113 hx hZ hown (hw _ tw342) (hw _ tw343) (hw _ tw344) (hw _ tw154) (by decide) e113 (rm45 l Z a0 hw [] b79 k79 k0 h107 n0 O110  c126 g82 hk0_0 hk2_0) rfl (by rw [hml]; rfl) (lenOf pd20 rfl) rfl (Nat.le_of_eq rfl) (hb hby d39_105) rfl (by decide)) ?_
    rintro T127 _ L127 X127 ⟨v128, rfl, Nq127, Kq127, q129, q130⟩
    have N127 := Fr.app N107 Nq127
    have K131 := K109.trans Kq127 (allS (Or.inr sz81) all0)
    have O132 := O110.keep Kq127 (allS g82 all0)
    refine Go.st (t' := T127.setTop (mkF m 109 #[SR a0_, SR a1_, SI 0, SI k0] [(.ref a0_)])) (fun target kt => ?_) ?_
    · refine XS.aloadN X127.here hx rfl (hb hby d39_108) rfl rfl ?_
      exact kt
    have S_133 : Keep h87 T127.heap [b35, b79] := ((((Keep.refl h87 [b35, b79]).ext E94).wr W107 (Or.inl mI0)).trans Kq127 (allS (Or.inl mI1) all0))
    have o134 : a0_ < b53 := Nat.lt_trans o104 o119
    have o135 : a0_ < b79 := Nat.lt_trans o134 o120
    have ne136 : a0_ ≠ b79 := Nat.ne_of_lt o135
    have c137 := c92.keep S_133 (ninS ne105 (ninS ne136 nin0))
    obtain ⟨T138, X138, e138, st138⟩ := getF X127 hx hZ hown (host := "") (Or.inl (hw _ tw302)) Via.refl rfl c137 (g := (mkF m 109 #[SR a0_, SR a1_, SI 0, SI k0] [(.ref a0_)])) rfl rfl (hb hby d39_109)
    refine Go.st st138 ?_
    have c139 := V108.keep Kq127 (ninS ne122 nin0)
    obtain ⟨cl140, Ar140, -, S140, M140, H140, -⟩ := id c139
    have hin140 : ¬ ((0 : Int32) < 0 ∨ cl140.slots.size ≤ ((0 : Int32)).toNatClampNeg) := inb_of S140 ⟨by decide, by decide⟩
    have hat140 : cl140.slots[((0 : Int32)).toNatClampNeg]? = some (.ref b94) := H140.at hin140 rfl
    refine Go.st (t' := T138.setTop (mkF m 115 #[SR a0_, SR a1_, SI 0, SI k0] [(.int (-1)), (.ref b94)])) (fun target kt => ?_) ?_
    · refine XS.iloadN X138.here hx rfl (hb hby d39_112) rfl ?_
      refine X138.aaload hx (j := (0 : Int32)) (v := (.ref b94)) (by rw [e138]; exact Ar140.1) (State.isArrayOf_alike hZ.alike Ar140.2.1) rfl Ar140.2.2 hin140 hat140 (g := (mkF m 113 #[SR a0_, SR a1_, SI 0, SI k0] [(.int 0), (.ref b35)])) rfl rfl (hb hby d39_113) _ ?_
      refine XS.iconst X138.here hx rfl (hb hby d39_114) ?_
      exact kt
    have S_141 : Keep h94 T127.heap [b35, b79] := (((Keep.refl h94 [b35, b79]).wr W107 (Or.inl mI0)).trans Kq127 (allS (Or.inl mI1) all0))
    have o142 : b79 < b94 := Nat.lt_of_lt_of_le V85.lt (Nat.le_trans (Keep.of_wr W87).1 lb95)
    have ne143 : b79 ≠ b94 := Nat.ne_of_lt o142
    have o144 : b35 < b94 := Nat.lt_trans o121 o142
    have ne145 : b35 ≠ b94 := Nat.ne_of_lt o144
    have c146 := V100.keep S_141 (ninS (Ne.symm ne145) (ninS (Ne.symm ne143) nin0))
    refine Go.cps (own_cs (W := 0) (argsL := [(.ref b94), (.int (-1))]) (rest := []) X138 hx hZ hown (hw _ tw342) (hw _ tw343) (hw _ tw344) (hw _ tw154) (by decide) e138 (rm45 l Z a0 hw [] b94 k94 k0 T127.heap n0 O132  c146 g97 hk0_0 hk2_0) rfl (by rw [hml]; rfl) (lenOf pd20 rfl) rfl (Nat.le_of_eq rfl) (hb hby d39_115) rfl (by decide)) ?_
    rintro T147 _ L147 X147 ⟨v148, rfl, Nq147, Kq147, q149, q150⟩
    have N147 := Fr.app N127 Nq147
    have K151 := K131.trans Kq147 (allS (Or.inr sz96) all0)
    have O152 := O132.keep Kq147 (allS g97 all0)
    refine Go.st (t' := T147.setTop (mkF m 51 #[SR a0_, SR a1_, SI 1, SI k0] [(.ref a0_), (.int 1)])) (fun target kt => ?_) ?_
    · refine XS.iinc X147.here hx rfl (hb hby d39_118) rfl (l' := #[SR a0_, SR a1_, SI 1, SI k0]) rfl ?_
      refine XS.goto X147.here hx rfl (pc0 := 121) (pc' := 49) rfl (hb hby d39_121) (by decide) (by decide) ?_
      refine XS.iloadN X147.here hx rfl (hb hby d39_49) rfl ?_
      refine XS.aloadN X147.here hx rfl (hb hby d39_50) rfl rfl ?_
      exact kt
    have S_153 : Keep h107 T147.heap [b79, b94] := (((Keep.refl h107 [b79, b94]).trans Kq127 (allS (Or.inl mI0) all0)).trans Kq147 (allS (Or.inl mI1) all0))
    have o154 : a0_ < b94 := Nat.lt_trans o135 o142
    have ne155 : a0_ ≠ b94 := Nat.ne_of_lt o154
    have c156 := c112.keep S_153 (ninS ne136 (ninS ne155 nin0))
    obtain ⟨T157, X157, e157, st157⟩ := getF X147 hx hZ hown (host := "") (Or.inl (hw _ tw300)) Via.refl rfl c156 (g := (mkF m 51 #[SR a0_, SR a1_, SI 1, SI k0] [(.ref a0_), (.int 1)])) rfl rfl (hb hby d39_51)
    refine Go.st st157 ?_
    have o159 : b18 < b94 := Nat.lt_trans o124 o142
    have ne160 : b18 ≠ b94 := Nat.ne_of_lt o159
    have c161 := c115.keep S_153 (ninS ne125 (ninS ne160 nin0))
    obtain ⟨cl158, Ar158, -, S158, M158, -, -⟩ := id c161
    refine Go.st (t' := T157.setTop (mkF m 124 #[SR a0_, SR a1_, SI 1, SI k0] [])) (fun target kt => ?_) ?_
    · refine X157.arraylength hx (by rw [e157]; exact Ar158.1) (State.isArrayOf_alike hZ.alike Ar158.2.1) (g := (mkF m 54 #[SR a0_, SR a1_, SI 1, SI k0] [(.ref b18), (.int 1)])) rfl rfl (hb hby d39_54) _ ?_
      rw [len_of S158 M158]
      refine XS.icmpYes X157.here hx rfl (pc0 := 55) (pc' := 124) rfl (hb hby d39_55) rfl (flt (by decide : ¬ ((1 : Int32) < (1 : Int32)))).2.1 (by decide) (by decide) ?_
      exact kt
    have S_162 := (((((Keep.refl h53 [a0_, b18, b35]).wr W63 (Or.inl mI0)).ext E79).wr W87 (Or.inl mI1)).ext E94).wr W107 (Or.inl mI2)
    have S_163 : Keep h53 T147.heap [a0_, b18, b35] := (S_162.trans S_153 (allS (Or.inr (Nat.le_trans (Keep.of_wr W63).1 lb80)) (allS (Or.inr (Nat.le_trans (Nat.le_trans (Nat.le_trans (Keep.of_wr W63).1 E79.1) (Keep.of_wr W87).1) lb95)) all0)))
    have c164 := c62.keep S_163
    have c165 := q129.keep Kq147 (ninS ne143 nin0)
    refine Go.ret X157 (v := none) (fun _ => rfl) hlk (fun fs hr => X157.returnOut hx hret (hb hby d39_124) hr) ?_ (by decide) (by decide)
    show Q39_1 Z a0_ a1_ we wl wle kle y0 y1 y2 l1 l2 xl q0 r0 re0 kr0 k0 ed ke h0 n0 _ T157.heap _
    rw [e157]
    exact ⟨b18, k18, b79, v128, rfl, N147, K151, c164, c156, c161, c165, q130⟩
  refine Go.st (t' := T69.setTop (mkF m 60 #[SR a0_, SR a1_, SI 0, .unset] [(.int 0), (.ref a1_)])) (fun target kt => ?_) ?_
  · refine XS.aloadN X69.here hx rfl (hb hby d39_58) rfl rfl ?_
    refine XS.iloadN X69.here hx rfl (hb hby d39_59) rfl ?_
    exact kt
  have S_166 : Keep h45 h63 [a0_] := (((Keep.refl h45 [a0_]).ext E53).wr W63 (Or.inl mI0))
  have c167 := c52.keep S_166
  have c168 := Fd_l.keep K65 (ninS ne_a1_ nin0)
  have c169 := c50.keep S_166 (ninS ne_a1_ nin0)
  have c170 := Vd_l.keep K65 (ninS ne_ed nin0)
  refine Go.cps (own_cf (W := 0) (b := a1_) (argsL := [(.int 0)]) (rest := []) X69 hx hZ hown (hw _ tw313) (hw _ tw223) (hw _ tw224) (hw _ tw225) (hw _ tw226) (hw _ tw227) (hw _ tw228) (hw _ tw115) (hw _ tw229) (hw _ tw47) (by decide) e69 c167 (rm30_0_1 l Z a0 hw [] a1_ ed ke q0 h63 n0 O66  c167 c168 c169 c170) rfl (by rw [hml]; rfl) (lenOf pd7 rfl) rfl (Nat.le_of_eq rfl) (hb hby d39_60) rfl (by decide)) ?_
  rintro T171 _ L171 X171 ⟨rfl, Nq171, eq171⟩
  have N171 := Fr.app N63 Nq171
  have c173 := E_q0.keep K65
  obtain ⟨T172, X172, e172, st172⟩ := castY X171 hx hZ hown (hw _ tw314) eq171 (Ins.self c173) (g := (mkF m 65 #[SR a0_, SR a1_, SI 0, .unset] [(.ref q0)])) rfl rfl (hb hby d39_65)
  refine Go.st st172 ?_
  have c174 := Fp_q0.keep K65 (ninS ne_q0 nin0)
  have c175 := Fs_q0.keep K65 (ninS ne_q0 nin0)
  have c176 := E_r0.keep K65
  have c177 := F_r0.keep K65 (ninS ne_r0 nin0)
  have c178 := V_re0.keep K65 (ninS ne_re0 nin0)
  have c179 := E_y0.keep K65
  have c180 := E_y1.keep K65
  have c181 := E_y2.keep K65
  have c182 := Fl_y0.keep K65 (ninS ne_y0 nin0)
  have c183 := Fl_y1.keep K65 (ninS ne_y1 nin0)
  have c184 := Fl_y2.keep K65 (ninS ne_y2 nin0)
  refine Go.cps (own_cw (W := 0) (b := q0) (argsL := []) (rest := []) X172 hx hZ hown (hw _ tw316) (hw _ tw317) (hw _ tw319) (hw _ tw318) (hw _ tw320) (hw _ tw274) (by decide) e172 c173 (rm41 l Z a0 hw [] q0 r0 k0 re0 kr0 y0 y1 y2 wl l1 l2 h63 n0 O66  c173 c174 c175 hk0_0 hk2_0 c176 c177 c178 c179 c180 c181 c182 c183 c184) rfl (by rw [hml]; rfl) (lenOf pd21 rfl) rfl (Nat.le_of_eq rfl) (hb hby d39_68) rfl (by decide)) ?_
  rintro T185 _ L185 X185 ⟨b186, b187, rfl, Nq185, eq185, q188, q189, q190⟩
  rw [eq185] at q188 q189
  have N185 := Fr.app N171 Nq185
  refine Go.cps (own_cw (W := 0) (b := b186) (argsL := []) (rest := []) X185 hx hZ hown (hw _ tw330) (hw _ tw331) (hw _ tw333) (hw _ tw332) (hw _ tw334) (hw _ tw103) (by decide) eq185 q188 (rm43 l Z a0 hw [] b186 b187 h63 n0 O66  q189) rfl (by rw [hml]; rfl) (lenOf pd10 rfl) rfl (Nat.le_of_eq rfl) (hb hby d39_71) rfl (by decide)) ?_
  rintro T191 _ L191 X191 ⟨rfl, Nq191, eq191⟩
  have N191 := Fr.app N185 Nq191
  rcases q190 with ⟨hk, hl⟩ | ⟨hk, hl⟩ | ⟨hk, hl⟩
  · skip
    show Go _ _ _ _ _ _ _ (T191.setTop (mkF m 74 #[SR a0_, SR a1_, SI 0, .unset] [(.ref b187)]))
    rw [hl]
    refine Go.cps (own_cf (W := 0) (b := wl) (argsL := []) (rest := []) X191 hx hZ hown (hw _ tw297) (hw _ tw118) (hw _ tw119) (hw _ tw345) (hw _ tw346) (hw _ tw347) (hw _ tw348) (hw _ tw326) (hw _ tw349) (hw _ tw258) (by decide) eq191 (E_wl.ext O66.2) (rm46 l Z a0 hw [] wl wle kle h63 n0 O66 F_wl V_wle ) rfl (by rw [hml]; rfl) (lenOf pd18 rfl) rfl (Nat.le_of_eq rfl) (hb hby d39_74) rfl (by decide)) ?_
    rintro T192 _ L192 X192 ⟨rfl, Nq192, eq192⟩
    have N192 := Fr.app N191 Nq192
    have hj := J76 _ _ X192 N192 eq192
    have e2 : T192.setTop (mkF m 79 #[SR a0_, SR a1_, SI 0, .unset] [(.int k0)]) = T192.setTop (mkF m 79 #[SR a0_, SR a1_, SI 0, .unset] [(.int 0)]) := by rw [hk]
    show Go _ _ _ _ _ _ _ (T192.setTop (mkF m 79 #[SR a0_, SR a1_, SI 0, .unset] [(.int 0)]))
    exact e2 ▸ hj
  · skip
    show Go _ _ _ _ _ _ _ (T191.setTop (mkF m 74 #[SR a0_, SR a1_, SI 0, .unset] [(.ref b187)]))
    rw [hl]
    have c193 := F1_l1.keep K65 (ninS ne_l1 nin0)
    have c195 := E_l1.keep K65
    refine Go.cps (own_cf (W := 0) (b := l1) (argsL := []) (rest := []) X191 hx hZ hown (hw _ tw297) (hw _ tw118) (hw _ tw119) (hw _ tw335) (hw _ tw336) (hw _ tw337) (hw _ tw338) (hw _ tw339) (hw _ tw340) (hw _ tw179) (by decide) eq191 c195 (rm44_1 l Z a0 hw [] l1 we h63 n0 O66 S_EM c193) rfl (by rw [hml]; rfl) (lenOf pd18 rfl) rfl (Nat.le_of_eq rfl) (hb hby d39_74) rfl (by decide)) ?_
    rintro T194 _ L194 X194 ⟨rfl, Nq194, eq194⟩
    have N194 := Fr.app N191 Nq194
    have hj := J76 _ _ X194 N194 eq194
    have e2 : T194.setTop (mkF m 79 #[SR a0_, SR a1_, SI 0, .unset] [(.int k0)]) = T194.setTop (mkF m 79 #[SR a0_, SR a1_, SI 0, .unset] [(.int 1)]) := by rw [hk]
    show Go _ _ _ _ _ _ _ (T194.setTop (mkF m 79 #[SR a0_, SR a1_, SI 0, .unset] [(.int 1)]))
    exact e2 ▸ hj
  · skip
    show Go _ _ _ _ _ _ _ (T191.setTop (mkF m 74 #[SR a0_, SR a1_, SI 0, .unset] [(.ref b187)]))
    rw [hl]
    have c196 := F1_l2.keep K65 (ninS ne_l2 nin0)
    have c198 := E_l2.keep K65
    refine Go.cps (own_cf (W := 0) (b := l2) (argsL := []) (rest := []) X191 hx hZ hown (hw _ tw297) (hw _ tw118) (hw _ tw119) (hw _ tw335) (hw _ tw336) (hw _ tw337) (hw _ tw338) (hw _ tw339) (hw _ tw340) (hw _ tw179) (by decide) eq191 c198 (rm44_2 l Z a0 hw [] l2 we xl h63 n0 O66 S_EM c196 nex) rfl (by rw [hml]; rfl) (lenOf pd18 rfl) rfl (Nat.le_of_eq rfl) (hb hby d39_74) rfl (by decide)) ?_
    rintro T197 _ L197 X197 ⟨rfl, Nq197, eq197⟩
    have N197 := Fr.app N191 Nq197
    have hj := J76 _ _ X197 N197 eq197
    have e2 : T197.setTop (mkF m 79 #[SR a0_, SR a1_, SI 0, .unset] [(.int k0)]) = T197.setTop (mkF m 79 #[SR a0_, SR a1_, SI 0, .unset] [(.int 2)]) := by rw [hk]
    show Go _ _ _ _ _ _ _ (T197.setTop (mkF m 79 #[SR a0_, SR a1_, SI 0, .unset] [(.int 2)]))
    exact e2 ▸ hj
def Q39_2 (Z : State) (a0_ : Addr) (a1_ : Addr) (we : Addr) (wl : Addr) (wle : Addr) (kle : ClassId) (y0 : Addr) (y1 : Addr) (y2 : Addr) (l1 : Addr) (l2 : Addr) (xl : Addr) (q0 : Addr) (r0 : Addr) (re0 : Addr) (kr0 : ClassId) (k0 : Int32) (q1 : Addr) (r1 : Addr) (re1 : Addr) (kr1 : ClassId) (k1 : Int32) (ed : Addr) (ke : ClassId) (h0 : Heap) (n0 : Nat) (v : Option Value) (h : Heap) (L : List Loc) : Prop := ∃ (dp : Addr) (kd_ : ClassId) (d0 : Addr) (d1 : Addr) (c0 : Cell) (c1 : Cell), v = none ∧ Fr n0 L ∧ Keep h0 h [a0_] ∧ Exa Z h a0_ sq5 ∧ Fld Z h a0_ sq5 "departures" "[[I" (.ref dp) ∧ Arv Z h dp kd_ (.array .int) (2 : Int32) [(.ref d0), (.ref d1)] .null ∧ Arr Z h d0 c0 .int ∧ c0.slots.size = k0.toNatClampNeg ∧ Arr Z h d1 c1 .int ∧ c1.slots.size = k1.toNatClampNeg
theorem rm39_2 (l : Launch) (Z : State) (a0 : Array Value) (hw : ∀ d ∈ tables_1, d.before a0 Z = true) (ws : List Jvm.Cond) (a0_ : Addr) (a1_ : Addr) (we : Addr) (wl : Addr) (wle : Addr) (kle : ClassId) (y0 : Addr) (y1 : Addr) (y2 : Addr) (l1 : Addr) (l2 : Addr) (xl : Addr) (q0 : Addr) (r0 : Addr) (re0 : Addr) (kr0 : ClassId) (k0 : Int32) (q1 : Addr) (r1 : Addr) (re1 : Addr) (kr1 : ClassId) (k1 : Int32) (ed : Addr) (ke : ClassId) (h0 : Heap) (n0 : Nat) (O0 : Old Z n0 h0) (S_EM : Sta Z Z.heap sq14 "EMPTY" sq12 (.ref we)) (E_wl : Exa Z Z.heap wl sq7) (F_wl : Fld Z Z.heap wl sq7 "elements" sq2 (.ref wle)) (V_wle : Arv Z Z.heap wle kle (.object sq1) (0 : Int32) [] .null) (E0 : Exa Z h0 a0_ sq5) (g0 : n0 ≤ a0_) (F_persons : Fld Z h0 a0_ sq5 "persons" sq11 .null) (F_departures : Fld Z h0 a0_ sq5 "departures" "[[I" .null) (F_arrivals : Fld Z h0 a0_ sq5 "arrivals" "[[I" .null) (F_departed : Fld Z h0 a0_ sq5 "departed" "[I" .null) (E_l : Exa Z h0 a1_ sq0) (Fd_l : Fld Z h0 a1_ sq0 sq10 sq2 (.ref ed)) (Fs_l : Fld Z h0 a1_ sq0 "size" "I" (.int 2)) (Ed_l : Exa Z h0 ed sq2) (Vd_l : Arv Z h0 ed ke (.object sq1) (10 : Int32) [(.ref q0), (.ref q1), .null, .null] .null) (E_q0 : Exa Z h0 q0 sq9) (Fp_q0 : Fld Z h0 q0 sq9 "plans" sq11 (.ref r0)) (Fs_q0 : Fld Z h0 q0 sq9 "selected" "I" (.int k0)) (E_r0 : Exa Z h0 r0 sq7) (F_r0 : Fld Z h0 r0 sq7 "elements" sq2 (.ref re0)) (V_re0 : Arv Z h0 re0 kr0 (.object sq1) (3 : Int32) [(.ref y0), (.ref y1), (.ref y2)] .null) (hk0_0 : ¬ k0 < 0) (hk2_0 : k0 < (3 : Int32)) (E_q1 : Exa Z h0 q1 sq9) (Fp_q1 : Fld Z h0 q1 sq9 "plans" sq11 (.ref r1)) (Fs_q1 : Fld Z h0 q1 sq9 "selected" "I" (.int k1)) (E_r1 : Exa Z h0 r1 sq7) (F_r1 : Fld Z h0 r1 sq7 "elements" sq2 (.ref re1)) (V_re1 : Arv Z h0 re1 kr1 (.object sq1) (3 : Int32) [(.ref y0), (.ref y1), (.ref y2)] .null) (hk0_1 : ¬ k1 < 0) (hk2_1 : k1 < (3 : Int32)) (E_y0 : Exa Z h0 y0 sq4) (E_y1 : Exa Z h0 y1 sq4) (E_y2 : Exa Z h0 y2 sq4) (Fl_y0 : Fld Z h0 y0 sq4 "legs" sq11 (.ref wl)) (Fl_y1 : Fld Z h0 y1 sq4 "legs" sq11 (.ref l1)) (Fl_y2 : Fld Z h0 y2 sq4 "legs" sq11 (.ref l2)) (E_l1 : Exa Z h0 l1 sq6) (E_l2 : Exa Z h0 l2 sq6) (F1_l1 : Fld Z h0 l1 sq6 "e1" sq12 (.ref we)) (F1_l2 : Fld Z h0 l2 sq6 "e1" sq12 (.ref xl)) (nex : xl ≠ we) (ne_a1_ : a1_ ≠ a0_) (ne_ed : ed ≠ a0_) (ne_y0 : y0 ≠ a0_) (ne_y1 : y1 ≠ a0_) (ne_y2 : y2 ≠ a0_) (ne_l1 : l1 ≠ a0_) (ne_l2 : l2 ≠ a0_) (ne_q0 : q0 ≠ a0_) (ne_r0 : r0 ≠ a0_) (ne_re0 : re0 ≠ a0_) (ne_q1 : q1 ≠ a0_) (ne_r1 : r1 ≠ a0_) (ne_re1 : re1 ≠ a0_) :
    Met l Z ws mm6 prog_32_method_1_code 4 none (Rm 3 7 14 40) #[(.ref a0_), (.ref a1_)] h0 (Q39_2 Z a0_ a1_ we wl wle kle y0 y1 y2 l1 l2 xl q0 r0 re0 kr0 k0 q1 r1 re1 kr1 k1 ed ke h0 n0) := by
  refine Met.enter (L0 := #[SR a0_, SR a1_, .unset, .unset]) (plainFor_of_name pn444) (fun m => ef39_0 m a0_ a1_) ?_
  intro p e s m below meth c s₁ hx hby hml hown hnm hret hlk hZ X0 e0
  have N0 := Fr.nil n0
  have Z0 := own_z0 O0
  have K0 : Keep h0 h0 [a0_] := Keep.refl h0 _
  refine Go.st (t' := s₁.setTop (mkF m 1 #[SR a0_, SR a1_, .unset, .unset] [(.ref a0_)])) (fun target kt => ?_) ?_
  · refine XS.aloadN X0.here hx rfl (hb hby d39_0) rfl rfl ?_
    exact kt
  obtain ⟨T10, X10, e10, st10⟩ := initO X0 hx hZ hown (hw _ tw294) (hw _ tw24) (hw _ tw25) e0 (g := (mkF m 1 #[SR a0_, SR a1_, .unset, .unset] [(.ref a0_)])) rfl (by rw [hml]; rfl) rfl (hb hby d39_1) (by decide) (W := 0) (by show 2 * 0 + _ ≤ _; exact Nat.le_of_eq rfl) (by decide)
  refine Go.st st10 ?_
  refine Go.st (t' := T10.setTop (mkF m 6 #[SR a0_, SR a1_, .unset, .unset] [(.ref a1_), (.ref a0_)])) (fun target kt => ?_) ?_
  · refine XS.aloadN X10.here hx rfl (hb hby d39_4) rfl rfl ?_
    refine XS.aloadN X10.here hx rfl (hb hby d39_5) rfl rfl ?_
    exact kt
  obtain ⟨T11, h11, X11, e11, W11, st11⟩ := putF X10 hx hZ hown (host := "") (Or.inl (hw _ tw295)) Via.refl e10 F_persons E0 (Or.inr ⟨(hw _ tw296), rfl, hnm⟩) (hw _ tw289) (ty := (.object sq3)) (by decide) rfl rfl (g := (mkF m 6 #[SR a0_, SR a1_, .unset, .unset] [(.ref a1_), (.ref a0_)])) rfl rfl (hb hby d39_6)
  have F12 : Fld Z h11 a0_ sq5 "persons" sq11 (.ref a1_) := F_persons.same W11
  have K13 := K0.wr W11 (Or.inl mI0)
  have O14 := O0.wr W11 g0
  have N11 := Fr.snoc X11 N0 g0
  refine Go.st st11 ?_
  refine Go.st (t' := T11.setTop (mkF m 11 #[SR a0_, SR a1_, .unset, .unset] [(.ref a1_), (.ref a0_)])) (fun target kt => ?_) ?_
  · refine XS.aloadN X11.here hx rfl (hb hby d39_9) rfl rfl ?_
    refine XS.aloadN X11.here hx rfl (hb hby d39_10) rfl rfl ?_
    exact kt
  have c15 := Fs_l.keep K13 (ninS ne_a1_ nin0)
  have c17 := E_l.keep K13
  refine Go.cps (own_cf (W := 1) (b := a1_) (argsL := []) (rest := [(.ref a0_)]) X11 hx hZ hown (hw _ tw297) (hw _ tw118) (hw _ tw119) (hw _ tw120) (hw _ tw121) (hw _ tw122) (hw _ tw123) (hw _ tw115) (hw _ tw124) (hw _ tw47) (by decide) e11 c17 (rm16 l Z a0 hw [] a1_ (2 : Int32) h11 n0 O14  c15) rfl (by rw [hml]; rfl) (lenOf pd18 rfl) rfl (Nat.le_of_eq rfl) (hb hby d39_11) rfl (by decide)) ?_
  rintro T16 _ L16 X16 ⟨rfl, Nq16, eq16⟩
  have N16 := Fr.app N11 Nq16
  obtain ⟨T18, h18, k18, X18, e18, E18, A18, B18, O'18, st18⟩ := newRA X16 hx hZ hown (by decide) (hw _ tw298) (hw _ tw299) eq16 (g := (mkF m 16 #[SR a0_, SR a1_, .unset, .unset] [(.int 2), (.ref a0_)])) rfl (hb hby d39_16) rfl (by decide) (cap := 2) (by decide) (by decide) (by decide) (by decide) (ad := "[[I") (by decide)
  obtain ⟨b18, g18⟩ : ∃ z, z = h11.size := ⟨_, rfl⟩
  rw [← g18] at A18 B18 st18
  have lb19 : h11.size ≤ b18 := Nat.le_of_eq g18.symm
  have sz20 : h0.size ≤ b18 := Nat.le_trans K13.1 lb19
  have g21 : n0 ≤ b18 := Nat.le_trans Z0 sz20
  have K22 := K13.ext E18
  have O23 := O14.ext E18
  have V24 : Arv Z h18 b18 k18 (.array .int) (2 : Int32) [.null, .null] .null := (Arv.new A18 (by decide)).pad (pad_rep [] .null 2)
  refine Go.st st18 ?_
  have c25 := (F_departures.other W11 (Or.inr (slot_ne (Or.inr (hw _ tw301)) (Or.inr (hw _ tw296)) (by decide) (t := (.array (.array .int))) (t' := (.object sq3)) (by decide) (by decide)))).ext E18
  have c26 := E0.keep K22
  obtain ⟨T27, h27, X27, e27, W27, st27⟩ := putF X18 hx hZ hown (host := "") (Or.inl (hw _ tw300)) Via.refl e18 c25 c26 (Or.inr ⟨(hw _ tw301), rfl, hnm⟩) (hw _ tw289) (ty := (.array (.array .int))) (by decide) rfl rfl (g := (mkF m 19 #[SR a0_, SR a1_, .unset, .unset] [(.ref b18), (.ref a0_)])) rfl rfl (hb hby d39_19)
  have F28 : Fld Z h27 a0_ sq5 "departures" "[[I" (.ref b18) := c25.same W27
  have K29 := K22.wr W27 (Or.inl mI0)
  have O30 := O23.wr W27 g0
  have N27 := Fr.snoc X27 N16 g0
  refine Go.st st27 ?_
  refine Go.st (t' := T27.setTop (mkF m 24 #[SR a0_, SR a1_, .unset, .unset] [(.ref a1_), (.ref a0_)])) (fun target kt => ?_) ?_
  · refine XS.aloadN X27.here hx rfl (hb hby d39_22) rfl rfl ?_
    refine XS.aloadN X27.here hx rfl (hb hby d39_23) rfl rfl ?_
    exact kt
  have S_31 : Keep h11 h27 [a0_] := (((Keep.refl h11 [a0_]).ext E18).wr W27 (Or.inl mI0))
  have c32 := c15.keep S_31 (ninS ne_a1_ nin0)
  have c34 := c17.keep S_31
  refine Go.cps (own_cf (W := 1) (b := a1_) (argsL := []) (rest := [(.ref a0_)]) X27 hx hZ hown (hw _ tw297) (hw _ tw118) (hw _ tw119) (hw _ tw120) (hw _ tw121) (hw _ tw122) (hw _ tw123) (hw _ tw115) (hw _ tw124) (hw _ tw47) (by decide) e27 c34 (rm16 l Z a0 hw [] a1_ (2 : Int32) h27 n0 O30  c32) rfl (by rw [hml]; rfl) (lenOf pd18 rfl) rfl (Nat.le_of_eq rfl) (hb hby d39_24) rfl (by decide)) ?_
  rintro T33 _ L33 X33 ⟨rfl, Nq33, eq33⟩
  have N33 := Fr.app N27 Nq33
  obtain ⟨T35, h35, k35, X35, e35, E35, A35, B35, O'35, st35⟩ := newRA X33 hx hZ hown (by decide) (hw _ tw298) (hw _ tw299) eq33 (g := (mkF m 29 #[SR a0_, SR a1_, .unset, .unset] [(.int 2), (.ref a0_)])) rfl (hb hby d39_29) rfl (by decide) (cap := 2) (by decide) (by decide) (by decide) (by decide) (ad := "[[I") (by decide)
  obtain ⟨b35, g35⟩ : ∃ z, z = h27.size := ⟨_, rfl⟩
  rw [← g35] at A35 B35 st35
  have lb36 : h27.size ≤ b35 := Nat.le_of_eq g35.symm
  have sz37 : h0.size ≤ b35 := Nat.le_trans K29.1 lb36
  have g38 : n0 ≤ b35 := Nat.le_trans Z0 sz37
  have K39 := K29.ext E35
  have O40 := O30.ext E35
  have V41 : Arv Z h35 b35 k35 (.array .int) (2 : Int32) [.null, .null] .null := (Arv.new A35 (by decide)).pad (pad_rep [] .null 2)
  refine Go.st st35 ?_
  have c42 := (((F_arrivals.other W11 (Or.inr (slot_ne (Or.inr (hw _ tw303)) (Or.inr (hw _ tw296)) (by decide) (t := (.array (.array .int))) (t' := (.object sq3)) (by decide) (by decide)))).ext E18).other W27 (Or.inr (slot_ne (Or.inr (hw _ tw303)) (Or.inr (hw _ tw301)) (by decide) (t := (.array (.array .int))) (t' := (.array (.array .int))) (by decide) (by decide)))).ext E35
  have S_43 : Keep h18 h35 [a0_] := (((Keep.refl h18 [a0_]).wr W27 (Or.inl mI0)).ext E35)
  have c44 := c26.keep S_43
  obtain ⟨T45, h45, X45, e45, W45, st45⟩ := putF X35 hx hZ hown (host := "") (Or.inl (hw _ tw302)) Via.refl e35 c42 c44 (Or.inr ⟨(hw _ tw303), rfl, hnm⟩) (hw _ tw289) (ty := (.array (.array .int))) (by decide) rfl rfl (g := (mkF m 32 #[SR a0_, SR a1_, .unset, .unset] [(.ref b35), (.ref a0_)])) rfl rfl (hb hby d39_32)
  have F46 : Fld Z h45 a0_ sq5 "arrivals" "[[I" (.ref b35) := c42.same W45
  have K47 := K39.wr W45 (Or.inl mI0)
  have O48 := O40.wr W45 g0
  have N45 := Fr.snoc X45 N33 g0
  refine Go.st st45 ?_
  refine Go.st (t' := T45.setTop (mkF m 37 #[SR a0_, SR a1_, .unset, .unset] [(.ref a1_), (.ref a0_)])) (fun target kt => ?_) ?_
  · refine XS.aloadN X45.here hx rfl (hb hby d39_35) rfl rfl ?_
    refine XS.aloadN X45.here hx rfl (hb hby d39_36) rfl rfl ?_
    exact kt
  have S_49 : Keep h27 h45 [a0_] := (((Keep.refl h27 [a0_]).ext E35).wr W45 (Or.inl mI0))
  have c50 := c32.keep S_49 (ninS ne_a1_ nin0)
  have c52 := c34.keep S_49
  refine Go.cps (own_cf (W := 1) (b := a1_) (argsL := []) (rest := [(.ref a0_)]) X45 hx hZ hown (hw _ tw297) (hw _ tw118) (hw _ tw119) (hw _ tw120) (hw _ tw121) (hw _ tw122) (hw _ tw123) (hw _ tw115) (hw _ tw124) (hw _ tw47) (by decide) e45 c52 (rm16 l Z a0 hw [] a1_ (2 : Int32) h45 n0 O48  c50) rfl (by rw [hml]; rfl) (lenOf pd18 rfl) rfl (Nat.le_of_eq rfl) (hb hby d39_37) rfl (by decide)) ?_
  rintro T51 _ L51 X51 ⟨rfl, Nq51, eq51⟩
  have N51 := Fr.app N45 Nq51
  obtain ⟨T53, h53, k53, X53, e53, E53, A53, B53, st53⟩ := newPE (aty := .int) X51 hx hZ (hw _ tw304) eq51 (g := (mkF m 42 #[SR a0_, SR a1_, .unset, .unset] [(.int 2), (.ref a0_)])) rfl (hb hby d39_42) rfl (by decide) (cap := 2) (by decide) (by decide) (by decide) (by decide) (ad := "[I") (by decide)
  obtain ⟨b53, g53⟩ : ∃ z, z = h45.size := ⟨_, rfl⟩
  rw [← g53] at A53 B53 st53
  have lb54 : h45.size ≤ b53 := Nat.le_of_eq g53.symm
  have sz55 : h0.size ≤ b53 := Nat.le_trans K47.1 lb54
  have g56 : n0 ≤ b53 := Nat.le_trans Z0 sz55
  have K57 := K47.ext E53
  have O58 := O48.ext E53
  have V59 : Arv Z h53 b53 k53 .int (2 : Int32) [(.int 0), (.int 0)] (.int 0) := (Arv.new A53 (by decide)).pad (pad_rep [] (.int 0) 2)
  refine Go.st st53 ?_
  have c60 := (((((F_departed.other W11 (Or.inr (slot_ne (Or.inr (hw _ tw306)) (Or.inr (hw _ tw296)) (by decide) (t := (.array .int)) (t' := (.object sq3)) (by decide) (by decide)))).ext E18).other W27 (Or.inr (slot_ne (Or.inr (hw _ tw306)) (Or.inr (hw _ tw301)) (by decide) (t := (.array .int)) (t' := (.array (.array .int))) (by decide) (by decide)))).ext E35).other W45 (Or.inr (slot_ne (Or.inr (hw _ tw306)) (Or.inr (hw _ tw303)) (by decide) (t := (.array .int)) (t' := (.array (.array .int))) (by decide) (by decide)))).ext E53
  have S_61 : Keep h35 h53 [a0_] := (((Keep.refl h35 [a0_]).wr W45 (Or.inl mI0)).ext E53)
  have c62 := c44.keep S_61
  obtain ⟨T63, h63, X63, e63, W63, st63⟩ := putF X53 hx hZ hown (host := "") (Or.inl (hw _ tw305)) Via.refl e53 c60 c62 (Or.inr ⟨(hw _ tw306), rfl, hnm⟩) (hw _ tw289) (ty := (.array .int)) (by decide) rfl rfl (g := (mkF m 44 #[SR a0_, SR a1_, .unset, .unset] [(.ref b53), (.ref a0_)])) rfl rfl (hb hby d39_44)
  have F64 : Fld Z h63 a0_ sq5 "departed" "[I" (.ref b53) := c60.same W63
  have K65 := K57.wr W63 (Or.inl mI0)
  have O66 := O58.wr W63 g0
  have N63 := Fr.snoc X63 N51 g0
  refine Go.st st63 ?_
  refine Go.st (t' := T63.setTop (mkF m 51 #[SR a0_, SR a1_, SI 0, .unset] [(.ref a0_), (.int 0)])) (fun target kt => ?_) ?_
  · refine XS.iconst X63.here hx rfl (hb hby d39_47) ?_
    refine XS.istoreN X63.here hx rfl (hb hby d39_48) rfl (l' := #[SR a0_, SR a1_, SI 0, .unset]) rfl ?_
    refine XS.iloadN X63.here hx rfl (hb hby d39_49) rfl ?_
    refine XS.aloadN X63.here hx rfl (hb hby d39_50) rfl rfl ?_
    exact kt
  have S_67 : Keep h27 h63 [a0_] := ((S_49.ext E53).wr W63 (Or.inl mI0))
  have c68 := (((F28.ext E35).other W45 (Or.inr (slot_ne (Or.inr (hw _ tw301)) (Or.inr (hw _ tw303)) (by decide) (t := (.array (.array .int))) (t' := (.array (.array .int))) (by decide) (by decide)))).ext E53).other W63 (Or.inr (slot_ne (Or.inr (hw _ tw301)) (Or.inr (hw _ tw306)) (by decide) (t := (.array (.array .int))) (t' := (.array .int)) (by decide) (by decide)))
  obtain ⟨T69, X69, e69, st69⟩ := getF X63 hx hZ hown (host := "") (Or.inl (hw _ tw300)) Via.refl e63 c68 (g := (mkF m 51 #[SR a0_, SR a1_, SI 0, .unset] [(.ref a0_), (.int 0)])) rfl rfl (hb hby d39_51)
  refine Go.st st69 ?_
  have S_71 := (Keep.refl h18 [a0_]).wr W27 (Or.inl mI0)
  have S_72 : Keep h18 h63 [a0_] := (S_71.trans S_67 (allS (Or.inl mI0) all0))
  have o73 : a0_ < b18 := Nat.lt_of_lt_of_le E0.lt (Nat.le_trans (Keep.of_wr W11).1 lb19)
  have ne74 : a0_ ≠ b18 := Nat.ne_of_lt o73
  have c75 := V24.keep S_72 (ninS (Ne.symm ne74) nin0)
  obtain ⟨cl70, Ar70, -, S70, M70, -, -⟩ := id c75
  refine Go.st (t' := T69.setTop (mkF m 58 #[SR a0_, SR a1_, SI 0, .unset] [])) (fun target kt => ?_) ?_
  · refine X69.arraylength hx (by rw [e69]; exact Ar70.1) (State.isArrayOf_alike hZ.alike Ar70.2.1) (g := (mkF m 54 #[SR a0_, SR a1_, SI 0, .unset] [(.ref b18), (.int 0)])) rfl rfl (hb hby d39_54) _ ?_
    rw [len_of S70 M70]
    refine XS.icmpNo X69.here hx rfl (hb hby d39_55) rfl (tlt (by decide : (0 : Int32) < (2 : Int32))).2.1 ?_
    exact kt
  have J76 : ∀ (T' : State) (L' : List Loc) (X' : Stand p l e (Rm 3 7 14 40) s m #[(.ref a0_), (.ref a1_)] below meth c T' L' 3 6) (N' : Fr n0 L') (e' : T'.heap = h63), Go p e below s (Q39_2 Z a0_ a1_ we wl wle kle y0 y1 y2 l1 l2 xl q0 r0 re0 kr0 k0 q1 r1 re1 kr1 k1 ed ke h0 n0) (Rm 3 7 14 40).cells (Rm 3 7 14 40).slots (T'.setTop (mkF m 79 #[SR a0_, SR a1_, SI 0, .unset] [(.int k0)])) := by
    intro T77 L77 X77 N77 e77
    refine Go.st (t' := T77.setTop (mkF m 81 #[SR a0_, SR a1_, SI 0, SI k0] [(.ref a0_)])) (fun target kt => ?_) ?_
    · refine XS.istoreN X77.here hx rfl (hb hby d39_79) rfl (l' := #[SR a0_, SR a1_, SI 0, SI k0]) rfl ?_
      refine XS.aloadN X77.here hx rfl (hb hby d39_80) rfl rfl ?_
      exact kt
    obtain ⟨T78, X78, e78, st78⟩ := getF X77 hx hZ hown (host := "") (Or.inl (hw _ tw300)) Via.refl e77 c68 (g := (mkF m 81 #[SR a0_, SR a1_, SI 0, SI k0] [(.ref a0_)])) rfl rfl (hb hby d39_81)
    refine Go.st st78 ?_
    refine Go.st (t' := T78.setTop (mkF m 86 #[SR a0_, SR a1_, SI 0, SI k0] [(.int k0), (.int 0), (.ref b18)])) (fun target kt => ?_) ?_
    · refine XS.iloadN X78.here hx rfl (hb hby d39_84) rfl ?_
      refine XS.iloadN X78.here hx rfl (hb hby d39_85) rfl ?_
      exact kt
    obtain ⟨T79, h79, k79, X79, e79, E79, A79, B79, st79⟩ := newPE (aty := .int) X78 hx hZ (hw _ tw304) e78 (g := (mkF m 86 #[SR a0_, SR a1_, SI 0, SI k0] [(.int k0), (.int 0), (.ref b18)])) rfl (hb hby d39_86) rfl hk0_0 (cap := 2) (own_cap2 hk0_0 hk2_0) (by decide) (by decide) (by decide) (ad := "[I") (by decide)
    obtain ⟨b79, g79⟩ : ∃ z, z = h63.size := ⟨_, rfl⟩
    rw [← g79] at A79 B79 st79
    have lb80 : h63.size ≤ b79 := Nat.le_of_eq g79.symm
    have sz81 : h0.size ≤ b79 := Nat.le_trans K65.1 lb80
    have g82 : n0 ≤ b79 := Nat.le_trans Z0 sz81
    have K83 := K65.ext E79
    have O84 := O66.ext E79
    have V85 : Arv Z h79 b79 k79 .int k0 [] (.int 0) := Arv.new A79 hk0_0
    refine Go.st st79 ?_
    have c86 := c75.ext E79
    obtain ⟨cl87, Ar87, q87, S87, M87, H87, G87⟩ := id c86
    have hin87 : ¬ ((0 : Int32) < 0 ∨ cl87.slots.size ≤ ((0 : Int32)).toNatClampNeg) := inb_of S87 ⟨by decide, by decide⟩
    obtain ⟨T87, h87, X87, e87, W87, st87⟩ := stR X79 hx hZ e79 Ar87 (j := (0 : Int32)) hin87 rfl (Sto.ofVA Ar87 q87 O'18 (Ins.self B79)) (g := (mkF m 88 #[SR a0_, SR a1_, SI 0, SI k0] [(.ref b79), (.int 0), (.ref b18)])) rfl rfl (hb hby d39_88)
    have V88 : Arv Z h87 b18 k18 (.array .int) (2 : Int32) [(.ref b79), .null] .null := Arv.set Ar87 q87 S87 M87 H87 G87 rfl W87 0 rfl (Nat.le_of_ble_eq_true rfl)
    have K89 := K83.wr W87 (Or.inr sz20)
    have O90 := O84.wr W87 g21
    have N87 := Fr.snoc X87 N77 g21
    refine Go.st st87 ?_
    refine Go.st (t' := T87.setTop (mkF m 90 #[SR a0_, SR a1_, SI 0, SI k0] [(.ref a0_)])) (fun target kt => ?_) ?_
    · refine XS.aloadN X87.here hx rfl (hb hby d39_89) rfl rfl ?_
      exact kt
    have S_91 : Keep h45 h87 [a0_, b18] := (((((Keep.refl h45 [a0_, b18]).ext E53).wr W63 (Or.inl mI0)).ext E79).wr W87 (Or.inl mI1))
    have c92 := (((F46.ext E53).other W63 (Or.inr (slot_ne (Or.inr (hw _ tw303)) (Or.inr (hw _ tw306)) (by decide) (t := (.array (.array .int))) (t' := (.array .int)) (by decide) (by decide)))).ext E79).other W87 (Or.inl ne74)
    obtain ⟨T93, X93, e93, st93⟩ := getF X87 hx hZ hown (host := "") (Or.inl (hw _ tw302)) Via.refl e87 c92 (g := (mkF m 90 #[SR a0_, SR a1_, SI 0, SI k0] [(.ref a0_)])) rfl rfl (hb hby d39_90)
    refine Go.st st93 ?_
    refine Go.st (t' := T93.setTop (mkF m 95 #[SR a0_, SR a1_, SI 0, SI k0] [(.int k0), (.int 0), (.ref b35)])) (fun target kt => ?_) ?_
    · refine XS.iloadN X93.here hx rfl (hb hby d39_93) rfl ?_
      refine XS.iloadN X93.here hx rfl (hb hby d39_94) rfl ?_
      exact kt
    obtain ⟨T94, h94, k94, X94, e94, E94, A94, B94, st94⟩ := newPE (aty := .int) X93 hx hZ (hw _ tw304) e93 (g := (mkF m 95 #[SR a0_, SR a1_, SI 0, SI k0] [(.int k0), (.int 0), (.ref b35)])) rfl (hb hby d39_95) rfl hk0_0 (cap := 2) (own_cap2 hk0_0 hk2_0) (by decide) (by decide) (by decide) (ad := "[I") (by decide)
    obtain ⟨b94, g94⟩ : ∃ z, z = h87.size := ⟨_, rfl⟩
    rw [← g94] at A94 B94 st94
    have lb95 : h87.size ≤ b94 := Nat.le_of_eq g94.symm
    have sz96 : h0.size ≤ b94 := Nat.le_trans K89.1 lb95
    have g97 : n0 ≤ b94 := Nat.le_trans Z0 sz96
    have K98 := K89.ext E94
    have O99 := O90.ext E94
    have V100 : Arv Z h94 b94 k94 .int k0 [] (.int 0) := Arv.new A94 hk0_0
    refine Go.st st94 ?_
    have S_101 : Keep h35 h94 [a0_, b18] := (((((((Keep.refl h35 [a0_, b18]).wr W45 (Or.inl mI0)).ext E53).wr W63 (Or.inl mI0)).ext E79).wr W87 (Or.inl mI1)).ext E94)
    have o102 : b18 < b35 := Nat.lt_of_lt_of_le V24.lt (Nat.le_trans (Keep.of_wr W27).1 lb36)
    have ne103 : b18 ≠ b35 := Nat.ne_of_lt o102
    have o104 : a0_ < b35 := Nat.lt_trans o73 o102
    have ne105 : a0_ ≠ b35 := Nat.ne_of_lt o104
    have c106 := V41.keep S_101 (ninS (Ne.symm ne105) (ninS (Ne.symm ne103) nin0))
    obtain ⟨cl107, Ar107, q107, S107, M107, H107, G107⟩ := id c106
    have hin107 : ¬ ((0 : Int32) < 0 ∨ cl107.slots.size ≤ ((0 : Int32)).toNatClampNeg) := inb_of S107 ⟨by decide, by decide⟩
    obtain ⟨T107, h107, X107, e107, W107, st107⟩ := stR X94 hx hZ e94 Ar107 (j := (0 : Int32)) hin107 rfl (Sto.ofVA Ar107 q107 O'35 (Ins.self B94)) (g := (mkF m 97 #[SR a0_, SR a1_, SI 0, SI k0] [(.ref b94), (.int 0), (.ref b35)])) rfl rfl (hb hby d39_97)
    have V108 : Arv Z h107 b35 k35 (.array .int) (2 : Int32) [(.ref b94), .null] .null := Arv.set Ar107 q107 S107 M107 H107 G107 rfl W107 0 rfl (Nat.le_of_ble_eq_true rfl)
    have K109 := K98.wr W107 (Or.inr sz37)
    have O110 := O99.wr W107 g38
    have N107 := Fr.snoc X107 N87 g38
    refine Go.st st107 ?_
    refine Go.st (t' := T107.setTop (mkF m 99 #[SR a0_, SR a1_, SI 0, SI k0] [(.ref a0_)])) (fun target kt => ?_) ?_
    · refine XS.aloadN X107.here hx rfl (hb hby d39_98) rfl rfl ?_
      exact kt
    have S_111 : Keep h63 h107 [b18, b35] := (((((Keep.refl h63 [b18, b35]).ext E79).wr W87 (Or.inl mI0)).ext E94).wr W107 (Or.inl mI1))
    have c112 := c68.keep S_111 (ninS ne74 (ninS ne105 nin0))
    obtain ⟨T113, X113, e113, st113⟩ := getF X107 hx hZ hown (host := "") (Or.inl (hw _ tw300)) Via.refl e107 c112 (g := (mkF m 99 #[SR a0_, SR a1_, SI 0, SI k0] [(.ref a0_)])) rfl rfl (hb hby d39_99)
    refine Go.st st113 ?_
    have S_114 : Keep h87 h107 [b35] := (((Keep.refl h87 [b35]).ext E94).wr W107 (Or.inl mI0))
    have c115 := V88.keep S_114 (ninS ne103 nin0)
    obtain ⟨cl116, Ar116, -, S116, M116, H116, -⟩ := id c115
    have hin116 : ¬ ((0 : Int32) < 0 ∨ cl116.slots.size ≤ ((0 : Int32)).toNatClampNeg) := inb_of S116 ⟨by decide, by decide⟩
    have hat116 : cl116.slots[((0 : Int32)).toNatClampNeg]? = some (.ref b79) := H116.at hin116 rfl
    refine Go.st (t' := T113.setTop (mkF m 105 #[SR a0_, SR a1_, SI 0, SI k0] [(.int (-1)), (.ref b79)])) (fun target kt => ?_) ?_
    · refine XS.iloadN X113.here hx rfl (hb hby d39_102) rfl ?_
      refine X113.aaload hx (j := (0 : Int32)) (v := (.ref b79)) (by rw [e113]; exact Ar116.1) (State.isArrayOf_alike hZ.alike Ar116.2.1) rfl Ar116.2.2 hin116 hat116 (g := (mkF m 103 #[SR a0_, SR a1_, SI 0, SI k0] [(.int 0), (.ref b18)])) rfl rfl (hb hby d39_103) _ ?_
      refine XS.iconst X113.here hx rfl (hb hby d39_104) ?_
      exact kt
    have S_117 := (Keep.refl h79 [b18, b35]).wr W87 (Or.inl mI0)
    have S_118 : Keep h79 h107 [b18, b35] := (S_117.trans S_114 (allS (Or.inl mI1) all0))
    have o119 : b35 < b53 := Nat.lt_of_lt_of_le V41.lt (Nat.le_trans (Keep.of_wr W45).1 lb54)
    have o120 : b53 < b79 := Nat.lt_of_lt_of_le V59.lt (Nat.le_trans (Keep.of_wr W63).1 lb80)
    have o121 : b35 < b79 := Nat.lt_trans o119 o120
    have ne122 : b35 ≠ b79 := Nat.ne_of_lt o121
    have o123 : b18 < b53 := Nat.lt_trans o102 o119
    have o124 : b18 < b79 := Nat.lt_trans o123 o120
    have ne125 : b18 ≠ b79 := Nat.ne_of_lt o124
    have c126 := V85.keep S_118 (ninS (Ne.symm ne125) (ninS (Ne.symm ne122) nin0))
    refine Go.cps (own_cs (W := 0) (argsL := [(.ref b79), (.int (-1))]) (rest := []) X113 hx hZ hown (hw _ tw342) (hw _ tw343) (hw _ tw344) (hw _ tw154) (by decide) e113 (rm45 l Z a0 hw [] b79 k79 k0 h107 n0 O110  c126 g82 hk0_0 hk2_0) rfl (by rw [hml]; rfl) (lenOf pd20 rfl) rfl (Nat.le_of_eq rfl) (hb hby d39_105) rfl (by decide)) ?_
    rintro T127 _ L127 X127 ⟨v128, rfl, Nq127, Kq127, q129, q130⟩
    have N127 := Fr.app N107 Nq127
    have K131 := K109.trans Kq127 (allS (Or.inr sz81) all0)
    have O132 := O110.keep Kq127 (allS g82 all0)
    refine Go.st (t' := T127.setTop (mkF m 109 #[SR a0_, SR a1_, SI 0, SI k0] [(.ref a0_)])) (fun target kt => ?_) ?_
    · refine XS.aloadN X127.here hx rfl (hb hby d39_108) rfl rfl ?_
      exact kt
    have S_133 : Keep h87 T127.heap [b35, b79] := ((((Keep.refl h87 [b35, b79]).ext E94).wr W107 (Or.inl mI0)).trans Kq127 (allS (Or.inl mI1) all0))
    have o134 : a0_ < b53 := Nat.lt_trans o104 o119
    have o135 : a0_ < b79 := Nat.lt_trans o134 o120
    have ne136 : a0_ ≠ b79 := Nat.ne_of_lt o135
    have c137 := c92.keep S_133 (ninS ne105 (ninS ne136 nin0))
    obtain ⟨T138, X138, e138, st138⟩ := getF X127 hx hZ hown (host := "") (Or.inl (hw _ tw302)) Via.refl rfl c137 (g := (mkF m 109 #[SR a0_, SR a1_, SI 0, SI k0] [(.ref a0_)])) rfl rfl (hb hby d39_109)
    refine Go.st st138 ?_
    have c139 := V108.keep Kq127 (ninS ne122 nin0)
    obtain ⟨cl140, Ar140, -, S140, M140, H140, -⟩ := id c139
    have hin140 : ¬ ((0 : Int32) < 0 ∨ cl140.slots.size ≤ ((0 : Int32)).toNatClampNeg) := inb_of S140 ⟨by decide, by decide⟩
    have hat140 : cl140.slots[((0 : Int32)).toNatClampNeg]? = some (.ref b94) := H140.at hin140 rfl
    refine Go.st (t' := T138.setTop (mkF m 115 #[SR a0_, SR a1_, SI 0, SI k0] [(.int (-1)), (.ref b94)])) (fun target kt => ?_) ?_
    · refine XS.iloadN X138.here hx rfl (hb hby d39_112) rfl ?_
      refine X138.aaload hx (j := (0 : Int32)) (v := (.ref b94)) (by rw [e138]; exact Ar140.1) (State.isArrayOf_alike hZ.alike Ar140.2.1) rfl Ar140.2.2 hin140 hat140 (g := (mkF m 113 #[SR a0_, SR a1_, SI 0, SI k0] [(.int 0), (.ref b35)])) rfl rfl (hb hby d39_113) _ ?_
      refine XS.iconst X138.here hx rfl (hb hby d39_114) ?_
      exact kt
    have S_141 : Keep h94 T127.heap [b35, b79] := (((Keep.refl h94 [b35, b79]).wr W107 (Or.inl mI0)).trans Kq127 (allS (Or.inl mI1) all0))
    have o142 : b79 < b94 := Nat.lt_of_lt_of_le V85.lt (Nat.le_trans (Keep.of_wr W87).1 lb95)
    have ne143 : b79 ≠ b94 := Nat.ne_of_lt o142
    have o144 : b35 < b94 := Nat.lt_trans o121 o142
    have ne145 : b35 ≠ b94 := Nat.ne_of_lt o144
    have c146 := V100.keep S_141 (ninS (Ne.symm ne145) (ninS (Ne.symm ne143) nin0))
    refine Go.cps (own_cs (W := 0) (argsL := [(.ref b94), (.int (-1))]) (rest := []) X138 hx hZ hown (hw _ tw342) (hw _ tw343) (hw _ tw344) (hw _ tw154) (by decide) e138 (rm45 l Z a0 hw [] b94 k94 k0 T127.heap n0 O132  c146 g97 hk0_0 hk2_0) rfl (by rw [hml]; rfl) (lenOf pd20 rfl) rfl (Nat.le_of_eq rfl) (hb hby d39_115) rfl (by decide)) ?_
    rintro T147 _ L147 X147 ⟨v148, rfl, Nq147, Kq147, q149, q150⟩
    have N147 := Fr.app N127 Nq147
    have K151 := K131.trans Kq147 (allS (Or.inr sz96) all0)
    have O152 := O132.keep Kq147 (allS g97 all0)
    refine Go.st (t' := T147.setTop (mkF m 51 #[SR a0_, SR a1_, SI 1, SI k0] [(.ref a0_), (.int 1)])) (fun target kt => ?_) ?_
    · refine XS.iinc X147.here hx rfl (hb hby d39_118) rfl (l' := #[SR a0_, SR a1_, SI 1, SI k0]) rfl ?_
      refine XS.goto X147.here hx rfl (pc0 := 121) (pc' := 49) rfl (hb hby d39_121) (by decide) (by decide) ?_
      refine XS.iloadN X147.here hx rfl (hb hby d39_49) rfl ?_
      refine XS.aloadN X147.here hx rfl (hb hby d39_50) rfl rfl ?_
      exact kt
    have S_153 : Keep h107 T147.heap [b79, b94] := (((Keep.refl h107 [b79, b94]).trans Kq127 (allS (Or.inl mI0) all0)).trans Kq147 (allS (Or.inl mI1) all0))
    have o154 : a0_ < b94 := Nat.lt_trans o135 o142
    have ne155 : a0_ ≠ b94 := Nat.ne_of_lt o154
    have c156 := c112.keep S_153 (ninS ne136 (ninS ne155 nin0))
    obtain ⟨T157, X157, e157, st157⟩ := getF X147 hx hZ hown (host := "") (Or.inl (hw _ tw300)) Via.refl rfl c156 (g := (mkF m 51 #[SR a0_, SR a1_, SI 1, SI k0] [(.ref a0_), (.int 1)])) rfl rfl (hb hby d39_51)
    refine Go.st st157 ?_
    have o159 : b18 < b94 := Nat.lt_trans o124 o142
    have ne160 : b18 ≠ b94 := Nat.ne_of_lt o159
    have c161 := c115.keep S_153 (ninS ne125 (ninS ne160 nin0))
    obtain ⟨cl158, Ar158, -, S158, M158, -, -⟩ := id c161
    refine Go.st (t' := T157.setTop (mkF m 58 #[SR a0_, SR a1_, SI 1, SI k0] [])) (fun target kt => ?_) ?_
    · refine X157.arraylength hx (by rw [e157]; exact Ar158.1) (State.isArrayOf_alike hZ.alike Ar158.2.1) (g := (mkF m 54 #[SR a0_, SR a1_, SI 1, SI k0] [(.ref b18), (.int 1)])) rfl rfl (hb hby d39_54) _ ?_
      rw [len_of S158 M158]
      refine XS.icmpNo X157.here hx rfl (hb hby d39_55) rfl (tlt (by decide : (1 : Int32) < (2 : Int32))).2.1 ?_
      exact kt
    have J162 : ∀ (T' : State) (L' : List Loc) (X' : Stand p l e (Rm 3 7 14 40) s m #[(.ref a0_), (.ref a1_)] below meth c T' L' 5 10) (N' : Fr n0 L') (e' : T'.heap = T147.heap), Go p e below s (Q39_2 Z a0_ a1_ we wl wle kle y0 y1 y2 l1 l2 xl q0 r0 re0 kr0 k0 q1 r1 re1 kr1 k1 ed ke h0 n0) (Rm 3 7 14 40).cells (Rm 3 7 14 40).slots (T'.setTop (mkF m 79 #[SR a0_, SR a1_, SI 1, SI k0] [(.int k1)])) := by
      intro T163 L163 X163 N163 e163
      refine Go.st (t' := T163.setTop (mkF m 81 #[SR a0_, SR a1_, SI 1, SI k1] [(.ref a0_)])) (fun target kt => ?_) ?_
      · refine XS.istoreN X163.here hx rfl (hb hby d39_79) rfl (l' := #[SR a0_, SR a1_, SI 1, SI k1]) rfl ?_
        refine XS.aloadN X163.here hx rfl (hb hby d39_80) rfl rfl ?_
        exact kt
      obtain ⟨T164, X164, e164, st164⟩ := getF X163 hx hZ hown (host := "") (Or.inl (hw _ tw300)) Via.refl e163 c156 (g := (mkF m 81 #[SR a0_, SR a1_, SI 1, SI k1] [(.ref a0_)])) rfl rfl (hb hby d39_81)
      refine Go.st st164 ?_
      refine Go.st (t' := T164.setTop (mkF m 86 #[SR a0_, SR a1_, SI 1, SI k1] [(.int k1), (.int 1), (.ref b18)])) (fun target kt => ?_) ?_
      · refine XS.iloadN X164.here hx rfl (hb hby d39_84) rfl ?_
        refine XS.iloadN X164.here hx rfl (hb hby d39_85) rfl ?_
        exact kt
      obtain ⟨T165, h165, k165, X165, e165, E165, A165, B165, st165⟩ := newPE (aty := .int) X164 hx hZ (hw _ tw304) e164 (g := (mkF m 86 #[SR a0_, SR a1_, SI 1, SI k1] [(.int k1), (.int 1), (.ref b18)])) rfl (hb hby d39_86) rfl hk0_1 (cap := 2) (own_cap2 hk0_1 hk2_1) (by decide) (by decide) (by decide) (ad := "[I") (by decide)
      obtain ⟨b165, g165⟩ : ∃ z, z = T147.heap.size := ⟨_, rfl⟩
      rw [← g165] at A165 B165 st165
      have lb166 : T147.heap.size ≤ b165 := Nat.le_of_eq g165.symm
      have sz167 : h0.size ≤ b165 := Nat.le_trans K151.1 lb166
      have g168 : n0 ≤ b165 := Nat.le_trans Z0 sz167
      have K169 := K151.ext E165
      have O170 := O152.ext E165
      have V171 : Arv Z h165 b165 k165 .int k1 [] (.int 0) := Arv.new A165 hk0_1
      refine Go.st st165 ?_
      have c172 := c161.ext E165
      obtain ⟨cl173, Ar173, q173, S173, M173, H173, G173⟩ := id c172
      have hin173 : ¬ ((1 : Int32) < 0 ∨ cl173.slots.size ≤ ((1 : Int32)).toNatClampNeg) := inb_of S173 ⟨by decide, by decide⟩
      obtain ⟨T173, h173, X173, e173, W173, st173⟩ := stR X165 hx hZ e165 Ar173 (j := (1 : Int32)) hin173 rfl (Sto.ofVA Ar173 q173 O'18 (Ins.self B165)) (g := (mkF m 88 #[SR a0_, SR a1_, SI 1, SI k1] [(.ref b165), (.int 1), (.ref b18)])) rfl rfl (hb hby d39_88)
      have V174 : Arv Z h173 b18 k18 (.array .int) (2 : Int32) [(.ref b79), (.ref b165)] .null := Arv.set Ar173 q173 S173 M173 H173 G173 rfl W173 1 rfl (Nat.le_of_ble_eq_true rfl)
      have K175 := K169.wr W173 (Or.inr sz20)
      have O176 := O170.wr W173 g21
      have N173 := Fr.snoc X173 N163 g21
      refine Go.st st173 ?_
      refine Go.st (t' := T173.setTop (mkF m 90 #[SR a0_, SR a1_, SI 1, SI k1] [(.ref a0_)])) (fun target kt => ?_) ?_
      · refine XS.aloadN X173.here hx rfl (hb hby d39_89) rfl rfl ?_
        exact kt
      have S_177 : Keep T127.heap h173 [b94, b18] := ((((Keep.refl T127.heap [b94, b18]).trans Kq147 (allS (Or.inl mI0) all0)).ext E165).wr W173 (Or.inl mI1))
      have c178 := c137.keep S_177 (ninS ne155 (ninS ne74 nin0))
      obtain ⟨T179, X179, e179, st179⟩ := getF X173 hx hZ hown (host := "") (Or.inl (hw _ tw302)) Via.refl e173 c178 (g := (mkF m 90 #[SR a0_, SR a1_, SI 1, SI k1] [(.ref a0_)])) rfl rfl (hb hby d39_90)
      refine Go.st st179 ?_
      refine Go.st (t' := T179.setTop (mkF m 95 #[SR a0_, SR a1_, SI 1, SI k1] [(.int k1), (.int 1), (.ref b35)])) (fun target kt => ?_) ?_
      · refine XS.iloadN X179.here hx rfl (hb hby d39_93) rfl ?_
        refine XS.iloadN X179.here hx rfl (hb hby d39_94) rfl ?_
        exact kt
      obtain ⟨T180, h180, k180, X180, e180, E180, A180, B180, st180⟩ := newPE (aty := .int) X179 hx hZ (hw _ tw304) e179 (g := (mkF m 95 #[SR a0_, SR a1_, SI 1, SI k1] [(.int k1), (.int 1), (.ref b35)])) rfl (hb hby d39_95) rfl hk0_1 (cap := 2) (own_cap2 hk0_1 hk2_1) (by decide) (by decide) (by decide) (ad := "[I") (by decide)
      obtain ⟨b180, g180⟩ : ∃ z, z = h173.size := ⟨_, rfl⟩
      rw [← g180] at A180 B180 st180
      have lb181 : h173.size ≤ b180 := Nat.le_of_eq g180.symm
      have sz182 : h0.size ≤ b180 := Nat.le_trans K175.1 lb181
      have g183 : n0 ≤ b180 := Nat.le_trans Z0 sz182
      have K184 := K175.ext E180
      have O185 := O176.ext E180
      have V186 : Arv Z h180 b180 k180 .int k1 [] (.int 0) := Arv.new A180 hk0_1
      refine Go.st st180 ?_
      have S_187 : Keep T127.heap h180 [b94, b18] := (S_177.ext E180)
      have c188 := c139.keep S_187 (ninS ne145 (ninS (Ne.symm ne103) nin0))
      obtain ⟨cl189, Ar189, q189, S189, M189, H189, G189⟩ := id c188
      have hin189 : ¬ ((1 : Int32) < 0 ∨ cl189.slots.size ≤ ((1 : Int32)).toNatClampNeg) := inb_of S189 ⟨by decide, by decide⟩
      obtain ⟨T189, h189, X189, e189, W189, st189⟩ := stR X180 hx hZ e180 Ar189 (j := (1 : Int32)) hin189 rfl (Sto.ofVA Ar189 q189 O'35 (Ins.self B180)) (g := (mkF m 97 #[SR a0_, SR a1_, SI 1, SI k1] [(.ref b180), (.int 1), (.ref b35)])) rfl rfl (hb hby d39_97)
      have V190 : Arv Z h189 b35 k35 (.array .int) (2 : Int32) [(.ref b94), (.ref b180)] .null := Arv.set Ar189 q189 S189 M189 H189 G189 rfl W189 1 rfl (Nat.le_of_ble_eq_true rfl)
      have K191 := K184.wr W189 (Or.inr sz37)
      have O192 := O185.wr W189 g38
      have N189 := Fr.snoc X189 N173 g38
      refine Go.st st189 ?_
      refine Go.st (t' := T189.setTop (mkF m 99 #[SR a0_, SR a1_, SI 1, SI k1] [(.ref a0_)])) (fun target kt => ?_) ?_
      · refine XS.aloadN X189.here hx rfl (hb hby d39_98) rfl rfl ?_
        exact kt
      have S_193 : Keep T147.heap h189 [b18, b35] := (((((Keep.refl T147.heap [b18, b35]).ext E165).wr W173 (Or.inl mI0)).ext E180).wr W189 (Or.inl mI1))
      have c194 := c156.keep S_193 (ninS ne74 (ninS ne105 nin0))
      obtain ⟨T195, X195, e195, st195⟩ := getF X189 hx hZ hown (host := "") (Or.inl (hw _ tw300)) Via.refl e189 c194 (g := (mkF m 99 #[SR a0_, SR a1_, SI 1, SI k1] [(.ref a0_)])) rfl rfl (hb hby d39_99)
      refine Go.st st195 ?_
      have S_196 : Keep h173 h189 [b35] := (((Keep.refl h173 [b35]).ext E180).wr W189 (Or.inl mI0))
      have c197 := V174.keep S_196 (ninS ne103 nin0)
      obtain ⟨cl198, Ar198, -, S198, M198, H198, -⟩ := id c197
      have hin198 : ¬ ((1 : Int32) < 0 ∨ cl198.slots.size ≤ ((1 : Int32)).toNatClampNeg) := inb_of S198 ⟨by decide, by decide⟩
      have hat198 : cl198.slots[((1 : Int32)).toNatClampNeg]? = some (.ref b165) := H198.at hin198 rfl
      refine Go.st (t' := T195.setTop (mkF m 105 #[SR a0_, SR a1_, SI 1, SI k1] [(.int (-1)), (.ref b165)])) (fun target kt => ?_) ?_
      · refine XS.iloadN X195.here hx rfl (hb hby d39_102) rfl ?_
        refine X195.aaload hx (j := (1 : Int32)) (v := (.ref b165)) (by rw [e195]; exact Ar198.1) (State.isArrayOf_alike hZ.alike Ar198.2.1) rfl Ar198.2.2 hin198 hat198 (g := (mkF m 103 #[SR a0_, SR a1_, SI 1, SI k1] [(.int 1), (.ref b18)])) rfl rfl (hb hby d39_103) _ ?_
        refine XS.iconst X195.here hx rfl (hb hby d39_104) ?_
        exact kt
      have S_199 := (Keep.refl h165 [b18, b35]).wr W173 (Or.inl mI0)
      have S_200 : Keep h165 h189 [b18, b35] := (S_199.trans S_196 (allS (Or.inl mI1) all0))
      have o201 : b94 < b165 := Nat.lt_of_lt_of_le V100.lt (Nat.le_trans (Nat.le_trans (Nat.le_trans (Keep.of_wr W107).1 Kq127.1) Kq147.1) lb166)
      have o202 : b35 < b165 := Nat.lt_trans o144 o201
      have ne203 : b35 ≠ b165 := Nat.ne_of_lt o202
      have o204 : b18 < b165 := Nat.lt_trans o159 o201
      have ne205 : b18 ≠ b165 := Nat.ne_of_lt o204
      have c206 := V171.keep S_200 (ninS (Ne.symm ne205) (ninS (Ne.symm ne203) nin0))
      refine Go.cps (own_cs (W := 0) (argsL := [(.ref b165), (.int (-1))]) (rest := []) X195 hx hZ hown (hw _ tw342) (hw _ tw343) (hw _ tw344) (hw _ tw154) (by decide) e195 (rm45 l Z a0 hw [] b165 k165 k1 h189 n0 O192  c206 g168 hk0_1 hk2_1) rfl (by rw [hml]; rfl) (lenOf pd20 rfl) rfl (Nat.le_of_eq rfl) (hb hby d39_105) rfl (by decide)) ?_
      rintro T207 _ L207 X207 ⟨v208, rfl, Nq207, Kq207, q209, q210⟩
      have N207 := Fr.app N189 Nq207
      have K211 := K191.trans Kq207 (allS (Or.inr sz167) all0)
      have O212 := O192.keep Kq207 (allS g168 all0)
      refine Go.st (t' := T207.setTop (mkF m 109 #[SR a0_, SR a1_, SI 1, SI k1] [(.ref a0_)])) (fun target kt => ?_) ?_
      · refine XS.aloadN X207.here hx rfl (hb hby d39_108) rfl rfl ?_
        exact kt
      have S_213 : Keep h173 T207.heap [b35, b165] := ((((Keep.refl h173 [b35, b165]).ext E180).wr W189 (Or.inl mI0)).trans Kq207 (allS (Or.inl mI1) all0))
      have o214 : a0_ < b165 := Nat.lt_trans o154 o201
      have ne215 : a0_ ≠ b165 := Nat.ne_of_lt o214
      have c216 := c178.keep S_213 (ninS ne105 (ninS ne215 nin0))
      obtain ⟨T217, X217, e217, st217⟩ := getF X207 hx hZ hown (host := "") (Or.inl (hw _ tw302)) Via.refl rfl c216 (g := (mkF m 109 #[SR a0_, SR a1_, SI 1, SI k1] [(.ref a0_)])) rfl rfl (hb hby d39_109)
      refine Go.st st217 ?_
      have c218 := V190.keep Kq207 (ninS ne203 nin0)
      obtain ⟨cl219, Ar219, -, S219, M219, H219, -⟩ := id c218
      have hin219 : ¬ ((1 : Int32) < 0 ∨ cl219.slots.size ≤ ((1 : Int32)).toNatClampNeg) := inb_of S219 ⟨by decide, by decide⟩
      have hat219 : cl219.slots[((1 : Int32)).toNatClampNeg]? = some (.ref b180) := H219.at hin219 rfl
      refine Go.st (t' := T217.setTop (mkF m 115 #[SR a0_, SR a1_, SI 1, SI k1] [(.int (-1)), (.ref b180)])) (fun target kt => ?_) ?_
      · refine XS.iloadN X217.here hx rfl (hb hby d39_112) rfl ?_
        refine X217.aaload hx (j := (1 : Int32)) (v := (.ref b180)) (by rw [e217]; exact Ar219.1) (State.isArrayOf_alike hZ.alike Ar219.2.1) rfl Ar219.2.2 hin219 hat219 (g := (mkF m 113 #[SR a0_, SR a1_, SI 1, SI k1] [(.int 1), (.ref b35)])) rfl rfl (hb hby d39_113) _ ?_
        refine XS.iconst X217.here hx rfl (hb hby d39_114) ?_
        exact kt
      have S_220 : Keep h180 T207.heap [b35, b165] := (((Keep.refl h180 [b35, b165]).wr W189 (Or.inl mI0)).trans Kq207 (allS (Or.inl mI1) all0))
      have o221 : b165 < b180 := Nat.lt_of_lt_of_le V171.lt (Nat.le_trans (Keep.of_wr W173).1 lb181)
      have ne222 : b165 ≠ b180 := Nat.ne_of_lt o221
      have o223 : b35 < b180 := Nat.lt_trans o202 o221
      have ne224 : b35 ≠ b180 := Nat.ne_of_lt o223
      have c225 := V186.keep S_220 (ninS (Ne.symm ne224) (ninS (Ne.symm ne222) nin0))
      refine Go.cps (own_cs (W := 0) (argsL := [(.ref b180), (.int (-1))]) (rest := []) X217 hx hZ hown (hw _ tw342) (hw _ tw343) (hw _ tw344) (hw _ tw154) (by decide) e217 (rm45 l Z a0 hw [] b180 k180 k1 T207.heap n0 O212  c225 g183 hk0_1 hk2_1) rfl (by rw [hml]; rfl) (lenOf pd20 rfl) rfl (Nat.le_of_eq rfl) (hb hby d39_115) rfl (by decide)) ?_
      rintro T226 _ L226 X226 ⟨v227, rfl, Nq226, Kq226, q228, q229⟩
      have N226 := Fr.app N207 Nq226
      have K230 := K211.trans Kq226 (allS (Or.inr sz182) all0)
      have O231 := O212.keep Kq226 (allS g183 all0)
      refine Go.st (t' := T226.setTop (mkF m 51 #[SR a0_, SR a1_, SI 2, SI k1] [(.ref a0_), (.int 2)])) (fun target kt => ?_) ?_
      · refine XS.iinc X226.here hx rfl (hb hby d39_118) rfl (l' := #[SR a0_, SR a1_, SI 2, SI k1]) rfl ?_
        refine XS.goto X226.here hx rfl (pc0 := 121) (pc' := 49) rfl (hb hby d39_121) (by decide) (by decide) ?_
        refine XS.iloadN X226.here hx rfl (hb hby d39_49) rfl ?_
        refine XS.aloadN X226.here hx rfl (hb hby d39_50) rfl rfl ?_
        exact kt
      have S_232 : Keep h189 T226.heap [b165, b180] := (((Keep.refl h189 [b165, b180]).trans Kq207 (allS (Or.inl mI0) all0)).trans Kq226 (allS (Or.inl mI1) all0))
      have o233 : a0_ < b180 := Nat.lt_trans o214 o221
      have ne234 : a0_ ≠ b180 := Nat.ne_of_lt o233
      have c235 := c194.keep S_232 (ninS ne215 (ninS ne234 nin0))
      obtain ⟨T236, X236, e236, st236⟩ := getF X226 hx hZ hown (host := "") (Or.inl (hw _ tw300)) Via.refl rfl c235 (g := (mkF m 51 #[SR a0_, SR a1_, SI 2, SI k1] [(.ref a0_), (.int 2)])) rfl rfl (hb hby d39_51)
      refine Go.st st236 ?_
      have o238 : b18 < b180 := Nat.lt_trans o204 o221
      have ne239 : b18 ≠ b180 := Nat.ne_of_lt o238
      have c240 := c197.keep S_232 (ninS ne205 (ninS ne239 nin0))
      obtain ⟨cl237, Ar237, -, S237, M237, -, -⟩ := id c240
      refine Go.st (t' := T236.setTop (mkF m 124 #[SR a0_, SR a1_, SI 2, SI k1] [])) (fun target kt => ?_) ?_
      · refine X236.arraylength hx (by rw [e236]; exact Ar237.1) (State.isArrayOf_alike hZ.alike Ar237.2.1) (g := (mkF m 54 #[SR a0_, SR a1_, SI 2, SI k1] [(.ref b18), (.int 2)])) rfl rfl (hb hby d39_54) _ ?_
        rw [len_of S237 M237]
        refine XS.icmpYes X236.here hx rfl (pc0 := 55) (pc' := 124) rfl (hb hby d39_55) rfl (flt (by decide : ¬ ((2 : Int32) < (2 : Int32)))).2.1 (by decide) (by decide) ?_
        exact kt
      have S_241 := ((((((Keep.refl h53 [a0_, b18, b35]).wr W63 (Or.inl mI0)).ext E79).wr W87 (Or.inl mI1)).ext E94).wr W107 (Or.inl mI2)).trans Kq127 (allS (Or.inr (Nat.le_trans (Keep.of_wr W63).1 lb80)) all0)
      have S_242 := ((((S_241.trans Kq147 (allS (Or.inr (Nat.le_trans (Nat.le_trans (Nat.le_trans (Keep.of_wr W63).1 E79.1) (Keep.of_wr W87).1) lb95)) all0)).ext E165).wr W173 (Or.inl mI1)).ext E180).wr W189 (Or.inl mI2)
      have S_243 : Keep h53 T226.heap [a0_, b18, b35] := (S_242.trans S_232 (allS (Or.inr (Nat.le_trans (Nat.le_trans S_241.1 Kq147.1) lb166)) (allS (Or.inr (Nat.le_trans (Nat.le_trans S_241.1 (Nat.le_trans (Nat.le_trans Kq147.1 E165.1) (Keep.of_wr W173).1)) lb181)) all0)))
      have c244 := c62.keep S_243
      have S_245 := (((((Keep.refl T127.heap [b94, b18, b35]).trans Kq147 (allS (Or.inl mI0) all0)).ext E165).wr W173 (Or.inl mI1)).ext E180).wr W189 (Or.inl mI2)
      have S_246 : Keep T127.heap T226.heap [b94, b18, b35] := (S_245.trans S_232 (allS (Or.inr (Nat.le_trans Kq147.1 lb166)) (allS (Or.inr (Nat.le_trans (Nat.le_trans (Nat.le_trans Kq147.1 E165.1) (Keep.of_wr W173).1) lb181)) all0)))
      have c247 := q129.keep S_246 (ninS ne143 (ninS (Ne.symm ne125) (ninS (Ne.symm ne122) nin0)))
      have c248 := q209.keep Kq226 (ninS ne222 nin0)
      refine Go.ret X236 (v := none) (fun _ => rfl) hlk (fun fs hr => X236.returnOut hx hret (hb hby d39_124) hr) ?_ (by decide) (by decide)
      show Q39_2 Z a0_ a1_ we wl wle kle y0 y1 y2 l1 l2 xl q0 r0 re0 kr0 k0 q1 r1 re1 kr1 k1 ed ke h0 n0 _ T236.heap _
      rw [e236]
      exact ⟨b18, k18, b79, b165, v128, v208, rfl, N226, K230, c244, c235, c240, c247, q130, c248, q210⟩
    refine Go.st (t' := T157.setTop (mkF m 60 #[SR a0_, SR a1_, SI 1, SI k0] [(.int 1), (.ref a1_)])) (fun target kt => ?_) ?_
    · refine XS.aloadN X157.here hx rfl (hb hby d39_58) rfl rfl ?_
      refine XS.iloadN X157.here hx rfl (hb hby d39_59) rfl ?_
      exact kt
    have S_249 := ((((((Keep.refl h45 [a0_, b18, b35]).ext E53).wr W63 (Or.inl mI0)).ext E79).wr W87 (Or.inl mI1)).ext E94).wr W107 (Or.inl mI2)
    have S_250 : Keep h45 T147.heap [a0_, b18, b35] := (S_249.trans S_153 (allS (Or.inr (Nat.le_trans (Nat.le_trans E53.1 (Keep.of_wr W63).1) lb80)) (allS (Or.inr (Nat.le_trans (Nat.le_trans (Nat.le_trans (Nat.le_trans E53.1 (Keep.of_wr W63).1) E79.1) (Keep.of_wr W87).1) lb95)) all0)))
    have c251 := c52.keep S_250
    have c252 := Fd_l.keep K151 (ninS ne_a1_ nin0)
    have o253 : a1_ < b18 := Nat.lt_of_lt_of_le E_l.lt (Nat.le_trans (Keep.of_wr W11).1 lb19)
    have o254 : a1_ < b35 := Nat.lt_trans o253 o102
    have ne255 : a1_ ≠ b35 := Nat.ne_of_lt o254
    have ne256 : a1_ ≠ b18 := Nat.ne_of_lt o253
    have c257 := c50.keep S_250 (ninS ne_a1_ (ninS ne256 (ninS ne255 nin0)))
    have c258 := Vd_l.keep K151 (ninS ne_ed nin0)
    refine Go.cps (own_cf (W := 0) (b := a1_) (argsL := [(.int 1)]) (rest := []) X157 hx hZ hown (hw _ tw313) (hw _ tw223) (hw _ tw224) (hw _ tw225) (hw _ tw226) (hw _ tw227) (hw _ tw228) (hw _ tw115) (hw _ tw229) (hw _ tw47) (by decide) e157 c251 (rm30_1_2 l Z a0 hw [] a1_ ed ke q0 q1 T147.heap n0 O152  c251 c252 c257 c258) rfl (by rw [hml]; rfl) (lenOf pd7 rfl) rfl (Nat.le_of_eq rfl) (hb hby d39_60) rfl (by decide)) ?_
    rintro T259 _ L259 X259 ⟨rfl, Nq259, eq259⟩
    have N259 := Fr.app N147 Nq259
    have c261 := E_q1.keep K151
    obtain ⟨T260, X260, e260, st260⟩ := castY X259 hx hZ hown (hw _ tw314) eq259 (Ins.self c261) (g := (mkF m 65 #[SR a0_, SR a1_, SI 1, SI k0] [(.ref q1)])) rfl rfl (hb hby d39_65)
    refine Go.st st260 ?_
    have c262 := Fp_q1.keep K151 (ninS ne_q1 nin0)
    have c263 := Fs_q1.keep K151 (ninS ne_q1 nin0)
    have c264 := E_r1.keep K151
    have c265 := F_r1.keep K151 (ninS ne_r1 nin0)
    have c266 := V_re1.keep K151 (ninS ne_re1 nin0)
    have c267 := E_y0.keep K151
    have c268 := E_y1.keep K151
    have c269 := E_y2.keep K151
    have c270 := Fl_y0.keep K151 (ninS ne_y0 nin0)
    have c271 := Fl_y1.keep K151 (ninS ne_y1 nin0)
    have c272 := Fl_y2.keep K151 (ninS ne_y2 nin0)
    refine Go.cps (own_cw (W := 0) (b := q1) (argsL := []) (rest := []) X260 hx hZ hown (hw _ tw316) (hw _ tw317) (hw _ tw319) (hw _ tw318) (hw _ tw320) (hw _ tw274) (by decide) e260 c261 (rm41 l Z a0 hw [] q1 r1 k1 re1 kr1 y0 y1 y2 wl l1 l2 T147.heap n0 O152  c261 c262 c263 hk0_1 hk2_1 c264 c265 c266 c267 c268 c269 c270 c271 c272) rfl (by rw [hml]; rfl) (lenOf pd21 rfl) rfl (Nat.le_of_eq rfl) (hb hby d39_68) rfl (by decide)) ?_
    rintro T273 _ L273 X273 ⟨b274, b275, rfl, Nq273, eq273, q276, q277, q278⟩
    rw [eq273] at q276 q277
    have N273 := Fr.app N259 Nq273
    refine Go.cps (own_cw (W := 0) (b := b274) (argsL := []) (rest := []) X273 hx hZ hown (hw _ tw330) (hw _ tw331) (hw _ tw333) (hw _ tw332) (hw _ tw334) (hw _ tw103) (by decide) eq273 q276 (rm43 l Z a0 hw [] b274 b275 T147.heap n0 O152  q277) rfl (by rw [hml]; rfl) (lenOf pd10 rfl) rfl (Nat.le_of_eq rfl) (hb hby d39_71) rfl (by decide)) ?_
    rintro T279 _ L279 X279 ⟨rfl, Nq279, eq279⟩
    have N279 := Fr.app N273 Nq279
    rcases q278 with ⟨hk, hl⟩ | ⟨hk, hl⟩ | ⟨hk, hl⟩
    · skip
      show Go _ _ _ _ _ _ _ (T279.setTop (mkF m 74 #[SR a0_, SR a1_, SI 1, SI k0] [(.ref b275)]))
      rw [hl]
      refine Go.cps (own_cf (W := 0) (b := wl) (argsL := []) (rest := []) X279 hx hZ hown (hw _ tw297) (hw _ tw118) (hw _ tw119) (hw _ tw345) (hw _ tw346) (hw _ tw347) (hw _ tw348) (hw _ tw326) (hw _ tw349) (hw _ tw258) (by decide) eq279 (E_wl.ext O152.2) (rm46 l Z a0 hw [] wl wle kle T147.heap n0 O152 F_wl V_wle ) rfl (by rw [hml]; rfl) (lenOf pd18 rfl) rfl (Nat.le_of_eq rfl) (hb hby d39_74) rfl (by decide)) ?_
      rintro T280 _ L280 X280 ⟨rfl, Nq280, eq280⟩
      have N280 := Fr.app N279 Nq280
      have hj := J162 _ _ X280 N280 eq280
      have e2 : T280.setTop (mkF m 79 #[SR a0_, SR a1_, SI 1, SI k0] [(.int k1)]) = T280.setTop (mkF m 79 #[SR a0_, SR a1_, SI 1, SI k0] [(.int 0)]) := by rw [hk]
      show Go _ _ _ _ _ _ _ (T280.setTop (mkF m 79 #[SR a0_, SR a1_, SI 1, SI k0] [(.int 0)]))
      exact e2 ▸ hj
    · skip
      show Go _ _ _ _ _ _ _ (T279.setTop (mkF m 74 #[SR a0_, SR a1_, SI 1, SI k0] [(.ref b275)]))
      rw [hl]
      have c281 := F1_l1.keep K151 (ninS ne_l1 nin0)
      have c283 := E_l1.keep K151
      refine Go.cps (own_cf (W := 0) (b := l1) (argsL := []) (rest := []) X279 hx hZ hown (hw _ tw297) (hw _ tw118) (hw _ tw119) (hw _ tw335) (hw _ tw336) (hw _ tw337) (hw _ tw338) (hw _ tw339) (hw _ tw340) (hw _ tw179) (by decide) eq279 c283 (rm44_1 l Z a0 hw [] l1 we T147.heap n0 O152 S_EM c281) rfl (by rw [hml]; rfl) (lenOf pd18 rfl) rfl (Nat.le_of_eq rfl) (hb hby d39_74) rfl (by decide)) ?_
      rintro T282 _ L282 X282 ⟨rfl, Nq282, eq282⟩
      have N282 := Fr.app N279 Nq282
      have hj := J162 _ _ X282 N282 eq282
      have e2 : T282.setTop (mkF m 79 #[SR a0_, SR a1_, SI 1, SI k0] [(.int k1)]) = T282.setTop (mkF m 79 #[SR a0_, SR a1_, SI 1, SI k0] [(.int 1)]) := by rw [hk]
      show Go _ _ _ _ _ _ _ (T282.setTop (mkF m 79 #[SR a0_, SR a1_, SI 1, SI k0] [(.int 1)]))
      exact e2 ▸ hj
    · skip
      show Go _ _ _ _ _ _ _ (T279.setTop (mkF m 74 #[SR a0_, SR a1_, SI 1, SI k0] [(.ref b275)]))
      rw [hl]
      have c284 := F1_l2.keep K151 (ninS ne_l2 nin0)
      have c286 := E_l2.keep K151
      refine Go.cps (own_cf (W := 0) (b := l2) (argsL := []) (rest := []) X279 hx hZ hown (hw _ tw297) (hw _ tw118) (hw _ tw119) (hw _ tw335) (hw _ tw336) (hw _ tw337) (hw _ tw338) (hw _ tw339) (hw _ tw340) (hw _ tw179) (by decide) eq279 c286 (rm44_2 l Z a0 hw [] l2 we xl T147.heap n0 O152 S_EM c284 nex) rfl (by rw [hml]; rfl) (lenOf pd18 rfl) rfl (Nat.le_of_eq rfl) (hb hby d39_74) rfl (by decide)) ?_
      rintro T285 _ L285 X285 ⟨rfl, Nq285, eq285⟩
      have N285 := Fr.app N279 Nq285
      have hj := J162 _ _ X285 N285 eq285
      have e2 : T285.setTop (mkF m 79 #[SR a0_, SR a1_, SI 1, SI k0] [(.int k1)]) = T285.setTop (mkF m 79 #[SR a0_, SR a1_, SI 1, SI k0] [(.int 2)]) := by rw [hk]
      show Go _ _ _ _ _ _ _ (T285.setTop (mkF m 79 #[SR a0_, SR a1_, SI 1, SI k0] [(.int 2)]))
      exact e2 ▸ hj
  refine Go.st (t' := T69.setTop (mkF m 60 #[SR a0_, SR a1_, SI 0, .unset] [(.int 0), (.ref a1_)])) (fun target kt => ?_) ?_
  · refine XS.aloadN X69.here hx rfl (hb hby d39_58) rfl rfl ?_
    refine XS.iloadN X69.here hx rfl (hb hby d39_59) rfl ?_
    exact kt
  have S_287 : Keep h45 h63 [a0_] := (((Keep.refl h45 [a0_]).ext E53).wr W63 (Or.inl mI0))
  have c288 := c52.keep S_287
  have c289 := Fd_l.keep K65 (ninS ne_a1_ nin0)
  have c290 := c50.keep S_287 (ninS ne_a1_ nin0)
  have c291 := Vd_l.keep K65 (ninS ne_ed nin0)
  refine Go.cps (own_cf (W := 0) (b := a1_) (argsL := [(.int 0)]) (rest := []) X69 hx hZ hown (hw _ tw313) (hw _ tw223) (hw _ tw224) (hw _ tw225) (hw _ tw226) (hw _ tw227) (hw _ tw228) (hw _ tw115) (hw _ tw229) (hw _ tw47) (by decide) e69 c288 (rm30_0_2 l Z a0 hw [] a1_ ed ke q0 q1 h63 n0 O66  c288 c289 c290 c291) rfl (by rw [hml]; rfl) (lenOf pd7 rfl) rfl (Nat.le_of_eq rfl) (hb hby d39_60) rfl (by decide)) ?_
  rintro T292 _ L292 X292 ⟨rfl, Nq292, eq292⟩
  have N292 := Fr.app N63 Nq292
  have c294 := E_q0.keep K65
  obtain ⟨T293, X293, e293, st293⟩ := castY X292 hx hZ hown (hw _ tw314) eq292 (Ins.self c294) (g := (mkF m 65 #[SR a0_, SR a1_, SI 0, .unset] [(.ref q0)])) rfl rfl (hb hby d39_65)
  refine Go.st st293 ?_
  have c295 := Fp_q0.keep K65 (ninS ne_q0 nin0)
  have c296 := Fs_q0.keep K65 (ninS ne_q0 nin0)
  have c297 := E_r0.keep K65
  have c298 := F_r0.keep K65 (ninS ne_r0 nin0)
  have c299 := V_re0.keep K65 (ninS ne_re0 nin0)
  have c300 := E_y0.keep K65
  have c301 := E_y1.keep K65
  have c302 := E_y2.keep K65
  have c303 := Fl_y0.keep K65 (ninS ne_y0 nin0)
  have c304 := Fl_y1.keep K65 (ninS ne_y1 nin0)
  have c305 := Fl_y2.keep K65 (ninS ne_y2 nin0)
  refine Go.cps (own_cw (W := 0) (b := q0) (argsL := []) (rest := []) X293 hx hZ hown (hw _ tw316) (hw _ tw317) (hw _ tw319) (hw _ tw318) (hw _ tw320) (hw _ tw274) (by decide) e293 c294 (rm41 l Z a0 hw [] q0 r0 k0 re0 kr0 y0 y1 y2 wl l1 l2 h63 n0 O66  c294 c295 c296 hk0_0 hk2_0 c297 c298 c299 c300 c301 c302 c303 c304 c305) rfl (by rw [hml]; rfl) (lenOf pd21 rfl) rfl (Nat.le_of_eq rfl) (hb hby d39_68) rfl (by decide)) ?_
  rintro T306 _ L306 X306 ⟨b307, b308, rfl, Nq306, eq306, q309, q310, q311⟩
  rw [eq306] at q309 q310
  have N306 := Fr.app N292 Nq306
  refine Go.cps (own_cw (W := 0) (b := b307) (argsL := []) (rest := []) X306 hx hZ hown (hw _ tw330) (hw _ tw331) (hw _ tw333) (hw _ tw332) (hw _ tw334) (hw _ tw103) (by decide) eq306 q309 (rm43 l Z a0 hw [] b307 b308 h63 n0 O66  q310) rfl (by rw [hml]; rfl) (lenOf pd10 rfl) rfl (Nat.le_of_eq rfl) (hb hby d39_71) rfl (by decide)) ?_
  rintro T312 _ L312 X312 ⟨rfl, Nq312, eq312⟩
  have N312 := Fr.app N306 Nq312
  rcases q311 with ⟨hk, hl⟩ | ⟨hk, hl⟩ | ⟨hk, hl⟩
  · skip
    show Go _ _ _ _ _ _ _ (T312.setTop (mkF m 74 #[SR a0_, SR a1_, SI 0, .unset] [(.ref b308)]))
    rw [hl]
    refine Go.cps (own_cf (W := 0) (b := wl) (argsL := []) (rest := []) X312 hx hZ hown (hw _ tw297) (hw _ tw118) (hw _ tw119) (hw _ tw345) (hw _ tw346) (hw _ tw347) (hw _ tw348) (hw _ tw326) (hw _ tw349) (hw _ tw258) (by decide) eq312 (E_wl.ext O66.2) (rm46 l Z a0 hw [] wl wle kle h63 n0 O66 F_wl V_wle ) rfl (by rw [hml]; rfl) (lenOf pd18 rfl) rfl (Nat.le_of_eq rfl) (hb hby d39_74) rfl (by decide)) ?_
    rintro T313 _ L313 X313 ⟨rfl, Nq313, eq313⟩
    have N313 := Fr.app N312 Nq313
    have hj := J76 _ _ X313 N313 eq313
    have e2 : T313.setTop (mkF m 79 #[SR a0_, SR a1_, SI 0, .unset] [(.int k0)]) = T313.setTop (mkF m 79 #[SR a0_, SR a1_, SI 0, .unset] [(.int 0)]) := by rw [hk]
    show Go _ _ _ _ _ _ _ (T313.setTop (mkF m 79 #[SR a0_, SR a1_, SI 0, .unset] [(.int 0)]))
    exact e2 ▸ hj
  · skip
    show Go _ _ _ _ _ _ _ (T312.setTop (mkF m 74 #[SR a0_, SR a1_, SI 0, .unset] [(.ref b308)]))
    rw [hl]
    have c314 := F1_l1.keep K65 (ninS ne_l1 nin0)
    have c316 := E_l1.keep K65
    refine Go.cps (own_cf (W := 0) (b := l1) (argsL := []) (rest := []) X312 hx hZ hown (hw _ tw297) (hw _ tw118) (hw _ tw119) (hw _ tw335) (hw _ tw336) (hw _ tw337) (hw _ tw338) (hw _ tw339) (hw _ tw340) (hw _ tw179) (by decide) eq312 c316 (rm44_1 l Z a0 hw [] l1 we h63 n0 O66 S_EM c314) rfl (by rw [hml]; rfl) (lenOf pd18 rfl) rfl (Nat.le_of_eq rfl) (hb hby d39_74) rfl (by decide)) ?_
    rintro T315 _ L315 X315 ⟨rfl, Nq315, eq315⟩
    have N315 := Fr.app N312 Nq315
    have hj := J76 _ _ X315 N315 eq315
    have e2 : T315.setTop (mkF m 79 #[SR a0_, SR a1_, SI 0, .unset] [(.int k0)]) = T315.setTop (mkF m 79 #[SR a0_, SR a1_, SI 0, .unset] [(.int 1)]) := by rw [hk]
    show Go _ _ _ _ _ _ _ (T315.setTop (mkF m 79 #[SR a0_, SR a1_, SI 0, .unset] [(.int 1)]))
    exact e2 ▸ hj
  · skip
    show Go _ _ _ _ _ _ _ (T312.setTop (mkF m 74 #[SR a0_, SR a1_, SI 0, .unset] [(.ref b308)]))
    rw [hl]
    have c317 := F1_l2.keep K65 (ninS ne_l2 nin0)
    have c319 := E_l2.keep K65
    refine Go.cps (own_cf (W := 0) (b := l2) (argsL := []) (rest := []) X312 hx hZ hown (hw _ tw297) (hw _ tw118) (hw _ tw119) (hw _ tw335) (hw _ tw336) (hw _ tw337) (hw _ tw338) (hw _ tw339) (hw _ tw340) (hw _ tw179) (by decide) eq312 c319 (rm44_2 l Z a0 hw [] l2 we xl h63 n0 O66 S_EM c317 nex) rfl (by rw [hml]; rfl) (lenOf pd18 rfl) rfl (Nat.le_of_eq rfl) (hb hby d39_74) rfl (by decide)) ?_
    rintro T318 _ L318 X318 ⟨rfl, Nq318, eq318⟩
    have N318 := Fr.app N312 Nq318
    have hj := J76 _ _ X318 N318 eq318
    have e2 : T318.setTop (mkF m 79 #[SR a0_, SR a1_, SI 0, .unset] [(.int k0)]) = T318.setTop (mkF m 79 #[SR a0_, SR a1_, SI 0, .unset] [(.int 2)]) := by rw [hk]
    show Go _ _ _ _ _ _ _ (T318.setTop (mkF m 79 #[SR a0_, SR a1_, SI 0, .unset] [(.int 2)]))
    exact e2 ▸ hj
def Q39_3 (Z : State) (a0_ : Addr) (a1_ : Addr) (we : Addr) (wl : Addr) (wle : Addr) (kle : ClassId) (y0 : Addr) (y1 : Addr) (y2 : Addr) (l1 : Addr) (l2 : Addr) (xl : Addr) (q0 : Addr) (r0 : Addr) (re0 : Addr) (kr0 : ClassId) (k0 : Int32) (q1 : Addr) (r1 : Addr) (re1 : Addr) (kr1 : ClassId) (k1 : Int32) (q2 : Addr) (r2 : Addr) (re2 : Addr) (kr2 : ClassId) (k2 : Int32) (ed : Addr) (ke : ClassId) (h0 : Heap) (n0 : Nat) (v : Option Value) (h : Heap) (L : List Loc) : Prop := ∃ (dp : Addr) (kd_ : ClassId) (d0 : Addr) (d1 : Addr) (d2 : Addr) (c0 : Cell) (c1 : Cell) (c2 : Cell), v = none ∧ Fr n0 L ∧ Keep h0 h [a0_] ∧ Exa Z h a0_ sq5 ∧ Fld Z h a0_ sq5 "departures" "[[I" (.ref dp) ∧ Arv Z h dp kd_ (.array .int) (3 : Int32) [(.ref d0), (.ref d1), (.ref d2)] .null ∧ Arr Z h d0 c0 .int ∧ c0.slots.size = k0.toNatClampNeg ∧ Arr Z h d1 c1 .int ∧ c1.slots.size = k1.toNatClampNeg ∧ Arr Z h d2 c2 .int ∧ c2.slots.size = k2.toNatClampNeg
theorem rm39_3 (l : Launch) (Z : State) (a0 : Array Value) (hw : ∀ d ∈ tables_1, d.before a0 Z = true) (ws : List Jvm.Cond) (a0_ : Addr) (a1_ : Addr) (we : Addr) (wl : Addr) (wle : Addr) (kle : ClassId) (y0 : Addr) (y1 : Addr) (y2 : Addr) (l1 : Addr) (l2 : Addr) (xl : Addr) (q0 : Addr) (r0 : Addr) (re0 : Addr) (kr0 : ClassId) (k0 : Int32) (q1 : Addr) (r1 : Addr) (re1 : Addr) (kr1 : ClassId) (k1 : Int32) (q2 : Addr) (r2 : Addr) (re2 : Addr) (kr2 : ClassId) (k2 : Int32) (ed : Addr) (ke : ClassId) (h0 : Heap) (n0 : Nat) (O0 : Old Z n0 h0) (S_EM : Sta Z Z.heap sq14 "EMPTY" sq12 (.ref we)) (E_wl : Exa Z Z.heap wl sq7) (F_wl : Fld Z Z.heap wl sq7 "elements" sq2 (.ref wle)) (V_wle : Arv Z Z.heap wle kle (.object sq1) (0 : Int32) [] .null) (E0 : Exa Z h0 a0_ sq5) (g0 : n0 ≤ a0_) (F_persons : Fld Z h0 a0_ sq5 "persons" sq11 .null) (F_departures : Fld Z h0 a0_ sq5 "departures" "[[I" .null) (F_arrivals : Fld Z h0 a0_ sq5 "arrivals" "[[I" .null) (F_departed : Fld Z h0 a0_ sq5 "departed" "[I" .null) (E_l : Exa Z h0 a1_ sq0) (Fd_l : Fld Z h0 a1_ sq0 sq10 sq2 (.ref ed)) (Fs_l : Fld Z h0 a1_ sq0 "size" "I" (.int 3)) (Ed_l : Exa Z h0 ed sq2) (Vd_l : Arv Z h0 ed ke (.object sq1) (10 : Int32) [(.ref q0), (.ref q1), (.ref q2), .null] .null) (E_q0 : Exa Z h0 q0 sq9) (Fp_q0 : Fld Z h0 q0 sq9 "plans" sq11 (.ref r0)) (Fs_q0 : Fld Z h0 q0 sq9 "selected" "I" (.int k0)) (E_r0 : Exa Z h0 r0 sq7) (F_r0 : Fld Z h0 r0 sq7 "elements" sq2 (.ref re0)) (V_re0 : Arv Z h0 re0 kr0 (.object sq1) (3 : Int32) [(.ref y0), (.ref y1), (.ref y2)] .null) (hk0_0 : ¬ k0 < 0) (hk2_0 : k0 < (3 : Int32)) (E_q1 : Exa Z h0 q1 sq9) (Fp_q1 : Fld Z h0 q1 sq9 "plans" sq11 (.ref r1)) (Fs_q1 : Fld Z h0 q1 sq9 "selected" "I" (.int k1)) (E_r1 : Exa Z h0 r1 sq7) (F_r1 : Fld Z h0 r1 sq7 "elements" sq2 (.ref re1)) (V_re1 : Arv Z h0 re1 kr1 (.object sq1) (3 : Int32) [(.ref y0), (.ref y1), (.ref y2)] .null) (hk0_1 : ¬ k1 < 0) (hk2_1 : k1 < (3 : Int32)) (E_q2 : Exa Z h0 q2 sq9) (Fp_q2 : Fld Z h0 q2 sq9 "plans" sq11 (.ref r2)) (Fs_q2 : Fld Z h0 q2 sq9 "selected" "I" (.int k2)) (E_r2 : Exa Z h0 r2 sq7) (F_r2 : Fld Z h0 r2 sq7 "elements" sq2 (.ref re2)) (V_re2 : Arv Z h0 re2 kr2 (.object sq1) (3 : Int32) [(.ref y0), (.ref y1), (.ref y2)] .null) (hk0_2 : ¬ k2 < 0) (hk2_2 : k2 < (3 : Int32)) (E_y0 : Exa Z h0 y0 sq4) (E_y1 : Exa Z h0 y1 sq4) (E_y2 : Exa Z h0 y2 sq4) (Fl_y0 : Fld Z h0 y0 sq4 "legs" sq11 (.ref wl)) (Fl_y1 : Fld Z h0 y1 sq4 "legs" sq11 (.ref l1)) (Fl_y2 : Fld Z h0 y2 sq4 "legs" sq11 (.ref l2)) (E_l1 : Exa Z h0 l1 sq6) (E_l2 : Exa Z h0 l2 sq6) (F1_l1 : Fld Z h0 l1 sq6 "e1" sq12 (.ref we)) (F1_l2 : Fld Z h0 l2 sq6 "e1" sq12 (.ref xl)) (nex : xl ≠ we) (ne_a1_ : a1_ ≠ a0_) (ne_ed : ed ≠ a0_) (ne_y0 : y0 ≠ a0_) (ne_y1 : y1 ≠ a0_) (ne_y2 : y2 ≠ a0_) (ne_l1 : l1 ≠ a0_) (ne_l2 : l2 ≠ a0_) (ne_q0 : q0 ≠ a0_) (ne_r0 : r0 ≠ a0_) (ne_re0 : re0 ≠ a0_) (ne_q1 : q1 ≠ a0_) (ne_r1 : r1 ≠ a0_) (ne_re1 : re1 ≠ a0_) (ne_q2 : q2 ≠ a0_) (ne_r2 : r2 ≠ a0_) (ne_re2 : re2 ≠ a0_) :
    Met l Z ws mm6 prog_32_method_1_code 4 none (Rm 3 9 21 40) #[(.ref a0_), (.ref a1_)] h0 (Q39_3 Z a0_ a1_ we wl wle kle y0 y1 y2 l1 l2 xl q0 r0 re0 kr0 k0 q1 r1 re1 kr1 k1 q2 r2 re2 kr2 k2 ed ke h0 n0) := by
  refine Met.enter (L0 := #[SR a0_, SR a1_, .unset, .unset]) (plainFor_of_name pn444) (fun m => ef39_0 m a0_ a1_) ?_
  intro p e s m below meth c s₁ hx hby hml hown hnm hret hlk hZ X0 e0
  have N0 := Fr.nil n0
  have Z0 := own_z0 O0
  have K0 : Keep h0 h0 [a0_] := Keep.refl h0 _
  refine Go.st (t' := s₁.setTop (mkF m 1 #[SR a0_, SR a1_, .unset, .unset] [(.ref a0_)])) (fun target kt => ?_) ?_
  · refine XS.aloadN X0.here hx rfl (hb hby d39_0) rfl rfl ?_
    exact kt
  obtain ⟨T10, X10, e10, st10⟩ := initO X0 hx hZ hown (hw _ tw294) (hw _ tw24) (hw _ tw25) e0 (g := (mkF m 1 #[SR a0_, SR a1_, .unset, .unset] [(.ref a0_)])) rfl (by rw [hml]; rfl) rfl (hb hby d39_1) (by decide) (W := 0) (by show 2 * 0 + _ ≤ _; exact Nat.le_of_eq rfl) (by decide)
  refine Go.st st10 ?_
  refine Go.st (t' := T10.setTop (mkF m 6 #[SR a0_, SR a1_, .unset, .unset] [(.ref a1_), (.ref a0_)])) (fun target kt => ?_) ?_
  · refine XS.aloadN X10.here hx rfl (hb hby d39_4) rfl rfl ?_
    refine XS.aloadN X10.here hx rfl (hb hby d39_5) rfl rfl ?_
    exact kt
  obtain ⟨T11, h11, X11, e11, W11, st11⟩ := putF X10 hx hZ hown (host := "") (Or.inl (hw _ tw295)) Via.refl e10 F_persons E0 (Or.inr ⟨(hw _ tw296), rfl, hnm⟩) (hw _ tw289) (ty := (.object sq3)) (by decide) rfl rfl (g := (mkF m 6 #[SR a0_, SR a1_, .unset, .unset] [(.ref a1_), (.ref a0_)])) rfl rfl (hb hby d39_6)
  have F12 : Fld Z h11 a0_ sq5 "persons" sq11 (.ref a1_) := F_persons.same W11
  have K13 := K0.wr W11 (Or.inl mI0)
  have O14 := O0.wr W11 g0
  have N11 := Fr.snoc X11 N0 g0
  refine Go.st st11 ?_
  refine Go.st (t' := T11.setTop (mkF m 11 #[SR a0_, SR a1_, .unset, .unset] [(.ref a1_), (.ref a0_)])) (fun target kt => ?_) ?_
  · refine XS.aloadN X11.here hx rfl (hb hby d39_9) rfl rfl ?_
    refine XS.aloadN X11.here hx rfl (hb hby d39_10) rfl rfl ?_
    exact kt
  have c15 := Fs_l.keep K13 (ninS ne_a1_ nin0)
  have c17 := E_l.keep K13
  refine Go.cps (own_cf (W := 1) (b := a1_) (argsL := []) (rest := [(.ref a0_)]) X11 hx hZ hown (hw _ tw297) (hw _ tw118) (hw _ tw119) (hw _ tw120) (hw _ tw121) (hw _ tw122) (hw _ tw123) (hw _ tw115) (hw _ tw124) (hw _ tw47) (by decide) e11 c17 (rm16 l Z a0 hw [] a1_ (3 : Int32) h11 n0 O14  c15) rfl (by rw [hml]; rfl) (lenOf pd18 rfl) rfl (Nat.le_of_eq rfl) (hb hby d39_11) rfl (by decide)) ?_
  rintro T16 _ L16 X16 ⟨rfl, Nq16, eq16⟩
  have N16 := Fr.app N11 Nq16
  obtain ⟨T18, h18, k18, X18, e18, E18, A18, B18, O'18, st18⟩ := newRA X16 hx hZ hown (by decide) (hw _ tw298) (hw _ tw299) eq16 (g := (mkF m 16 #[SR a0_, SR a1_, .unset, .unset] [(.int 3), (.ref a0_)])) rfl (hb hby d39_16) rfl (by decide) (cap := 3) (by decide) (by decide) (by decide) (by decide) (ad := "[[I") (by decide)
  obtain ⟨b18, g18⟩ : ∃ z, z = h11.size := ⟨_, rfl⟩
  rw [← g18] at A18 B18 st18
  have lb19 : h11.size ≤ b18 := Nat.le_of_eq g18.symm
  have sz20 : h0.size ≤ b18 := Nat.le_trans K13.1 lb19
  have g21 : n0 ≤ b18 := Nat.le_trans Z0 sz20
  have K22 := K13.ext E18
  have O23 := O14.ext E18
  have V24 : Arv Z h18 b18 k18 (.array .int) (3 : Int32) [.null, .null, .null] .null := (Arv.new A18 (by decide)).pad (pad_rep [] .null 3)
  refine Go.st st18 ?_
  have c25 := (F_departures.other W11 (Or.inr (slot_ne (Or.inr (hw _ tw301)) (Or.inr (hw _ tw296)) (by decide) (t := (.array (.array .int))) (t' := (.object sq3)) (by decide) (by decide)))).ext E18
  have c26 := E0.keep K22
  obtain ⟨T27, h27, X27, e27, W27, st27⟩ := putF X18 hx hZ hown (host := "") (Or.inl (hw _ tw300)) Via.refl e18 c25 c26 (Or.inr ⟨(hw _ tw301), rfl, hnm⟩) (hw _ tw289) (ty := (.array (.array .int))) (by decide) rfl rfl (g := (mkF m 19 #[SR a0_, SR a1_, .unset, .unset] [(.ref b18), (.ref a0_)])) rfl rfl (hb hby d39_19)
  have F28 : Fld Z h27 a0_ sq5 "departures" "[[I" (.ref b18) := c25.same W27
  have K29 := K22.wr W27 (Or.inl mI0)
  have O30 := O23.wr W27 g0
  have N27 := Fr.snoc X27 N16 g0
  refine Go.st st27 ?_
  refine Go.st (t' := T27.setTop (mkF m 24 #[SR a0_, SR a1_, .unset, .unset] [(.ref a1_), (.ref a0_)])) (fun target kt => ?_) ?_
  · refine XS.aloadN X27.here hx rfl (hb hby d39_22) rfl rfl ?_
    refine XS.aloadN X27.here hx rfl (hb hby d39_23) rfl rfl ?_
    exact kt
  have S_31 : Keep h11 h27 [a0_] := (((Keep.refl h11 [a0_]).ext E18).wr W27 (Or.inl mI0))
  have c32 := c15.keep S_31 (ninS ne_a1_ nin0)
  have c34 := c17.keep S_31
  refine Go.cps (own_cf (W := 1) (b := a1_) (argsL := []) (rest := [(.ref a0_)]) X27 hx hZ hown (hw _ tw297) (hw _ tw118) (hw _ tw119) (hw _ tw120) (hw _ tw121) (hw _ tw122) (hw _ tw123) (hw _ tw115) (hw _ tw124) (hw _ tw47) (by decide) e27 c34 (rm16 l Z a0 hw [] a1_ (3 : Int32) h27 n0 O30  c32) rfl (by rw [hml]; rfl) (lenOf pd18 rfl) rfl (Nat.le_of_eq rfl) (hb hby d39_24) rfl (by decide)) ?_
  rintro T33 _ L33 X33 ⟨rfl, Nq33, eq33⟩
  have N33 := Fr.app N27 Nq33
  obtain ⟨T35, h35, k35, X35, e35, E35, A35, B35, O'35, st35⟩ := newRA X33 hx hZ hown (by decide) (hw _ tw298) (hw _ tw299) eq33 (g := (mkF m 29 #[SR a0_, SR a1_, .unset, .unset] [(.int 3), (.ref a0_)])) rfl (hb hby d39_29) rfl (by decide) (cap := 3) (by decide) (by decide) (by decide) (by decide) (ad := "[[I") (by decide)
  obtain ⟨b35, g35⟩ : ∃ z, z = h27.size := ⟨_, rfl⟩
  rw [← g35] at A35 B35 st35
  have lb36 : h27.size ≤ b35 := Nat.le_of_eq g35.symm
  have sz37 : h0.size ≤ b35 := Nat.le_trans K29.1 lb36
  have g38 : n0 ≤ b35 := Nat.le_trans Z0 sz37
  have K39 := K29.ext E35
  have O40 := O30.ext E35
  have V41 : Arv Z h35 b35 k35 (.array .int) (3 : Int32) [.null, .null, .null] .null := (Arv.new A35 (by decide)).pad (pad_rep [] .null 3)
  refine Go.st st35 ?_
  have c42 := (((F_arrivals.other W11 (Or.inr (slot_ne (Or.inr (hw _ tw303)) (Or.inr (hw _ tw296)) (by decide) (t := (.array (.array .int))) (t' := (.object sq3)) (by decide) (by decide)))).ext E18).other W27 (Or.inr (slot_ne (Or.inr (hw _ tw303)) (Or.inr (hw _ tw301)) (by decide) (t := (.array (.array .int))) (t' := (.array (.array .int))) (by decide) (by decide)))).ext E35
  have S_43 : Keep h18 h35 [a0_] := (((Keep.refl h18 [a0_]).wr W27 (Or.inl mI0)).ext E35)
  have c44 := c26.keep S_43
  obtain ⟨T45, h45, X45, e45, W45, st45⟩ := putF X35 hx hZ hown (host := "") (Or.inl (hw _ tw302)) Via.refl e35 c42 c44 (Or.inr ⟨(hw _ tw303), rfl, hnm⟩) (hw _ tw289) (ty := (.array (.array .int))) (by decide) rfl rfl (g := (mkF m 32 #[SR a0_, SR a1_, .unset, .unset] [(.ref b35), (.ref a0_)])) rfl rfl (hb hby d39_32)
  have F46 : Fld Z h45 a0_ sq5 "arrivals" "[[I" (.ref b35) := c42.same W45
  have K47 := K39.wr W45 (Or.inl mI0)
  have O48 := O40.wr W45 g0
  have N45 := Fr.snoc X45 N33 g0
  refine Go.st st45 ?_
  refine Go.st (t' := T45.setTop (mkF m 37 #[SR a0_, SR a1_, .unset, .unset] [(.ref a1_), (.ref a0_)])) (fun target kt => ?_) ?_
  · refine XS.aloadN X45.here hx rfl (hb hby d39_35) rfl rfl ?_
    refine XS.aloadN X45.here hx rfl (hb hby d39_36) rfl rfl ?_
    exact kt
  have S_49 : Keep h27 h45 [a0_] := (((Keep.refl h27 [a0_]).ext E35).wr W45 (Or.inl mI0))
  have c50 := c32.keep S_49 (ninS ne_a1_ nin0)
  have c52 := c34.keep S_49
  refine Go.cps (own_cf (W := 1) (b := a1_) (argsL := []) (rest := [(.ref a0_)]) X45 hx hZ hown (hw _ tw297) (hw _ tw118) (hw _ tw119) (hw _ tw120) (hw _ tw121) (hw _ tw122) (hw _ tw123) (hw _ tw115) (hw _ tw124) (hw _ tw47) (by decide) e45 c52 (rm16 l Z a0 hw [] a1_ (3 : Int32) h45 n0 O48  c50) rfl (by rw [hml]; rfl) (lenOf pd18 rfl) rfl (Nat.le_of_eq rfl) (hb hby d39_37) rfl (by decide)) ?_
  rintro T51 _ L51 X51 ⟨rfl, Nq51, eq51⟩
  have N51 := Fr.app N45 Nq51
  obtain ⟨T53, h53, k53, X53, e53, E53, A53, B53, st53⟩ := newPE (aty := .int) X51 hx hZ (hw _ tw304) eq51 (g := (mkF m 42 #[SR a0_, SR a1_, .unset, .unset] [(.int 3), (.ref a0_)])) rfl (hb hby d39_42) rfl (by decide) (cap := 3) (by decide) (by decide) (by decide) (by decide) (ad := "[I") (by decide)
  obtain ⟨b53, g53⟩ : ∃ z, z = h45.size := ⟨_, rfl⟩
  rw [← g53] at A53 B53 st53
  have lb54 : h45.size ≤ b53 := Nat.le_of_eq g53.symm
  have sz55 : h0.size ≤ b53 := Nat.le_trans K47.1 lb54
  have g56 : n0 ≤ b53 := Nat.le_trans Z0 sz55
  have K57 := K47.ext E53
  have O58 := O48.ext E53
  have V59 : Arv Z h53 b53 k53 .int (3 : Int32) [(.int 0), (.int 0), (.int 0)] (.int 0) := (Arv.new A53 (by decide)).pad (pad_rep [] (.int 0) 3)
  refine Go.st st53 ?_
  have c60 := (((((F_departed.other W11 (Or.inr (slot_ne (Or.inr (hw _ tw306)) (Or.inr (hw _ tw296)) (by decide) (t := (.array .int)) (t' := (.object sq3)) (by decide) (by decide)))).ext E18).other W27 (Or.inr (slot_ne (Or.inr (hw _ tw306)) (Or.inr (hw _ tw301)) (by decide) (t := (.array .int)) (t' := (.array (.array .int))) (by decide) (by decide)))).ext E35).other W45 (Or.inr (slot_ne (Or.inr (hw _ tw306)) (Or.inr (hw _ tw303)) (by decide) (t := (.array .int)) (t' := (.array (.array .int))) (by decide) (by decide)))).ext E53
  have S_61 : Keep h35 h53 [a0_] := (((Keep.refl h35 [a0_]).wr W45 (Or.inl mI0)).ext E53)
  have c62 := c44.keep S_61
  obtain ⟨T63, h63, X63, e63, W63, st63⟩ := putF X53 hx hZ hown (host := "") (Or.inl (hw _ tw305)) Via.refl e53 c60 c62 (Or.inr ⟨(hw _ tw306), rfl, hnm⟩) (hw _ tw289) (ty := (.array .int)) (by decide) rfl rfl (g := (mkF m 44 #[SR a0_, SR a1_, .unset, .unset] [(.ref b53), (.ref a0_)])) rfl rfl (hb hby d39_44)
  have F64 : Fld Z h63 a0_ sq5 "departed" "[I" (.ref b53) := c60.same W63
  have K65 := K57.wr W63 (Or.inl mI0)
  have O66 := O58.wr W63 g0
  have N63 := Fr.snoc X63 N51 g0
  refine Go.st st63 ?_
  refine Go.st (t' := T63.setTop (mkF m 51 #[SR a0_, SR a1_, SI 0, .unset] [(.ref a0_), (.int 0)])) (fun target kt => ?_) ?_
  · refine XS.iconst X63.here hx rfl (hb hby d39_47) ?_
    refine XS.istoreN X63.here hx rfl (hb hby d39_48) rfl (l' := #[SR a0_, SR a1_, SI 0, .unset]) rfl ?_
    refine XS.iloadN X63.here hx rfl (hb hby d39_49) rfl ?_
    refine XS.aloadN X63.here hx rfl (hb hby d39_50) rfl rfl ?_
    exact kt
  have S_67 : Keep h27 h63 [a0_] := ((S_49.ext E53).wr W63 (Or.inl mI0))
  have c68 := (((F28.ext E35).other W45 (Or.inr (slot_ne (Or.inr (hw _ tw301)) (Or.inr (hw _ tw303)) (by decide) (t := (.array (.array .int))) (t' := (.array (.array .int))) (by decide) (by decide)))).ext E53).other W63 (Or.inr (slot_ne (Or.inr (hw _ tw301)) (Or.inr (hw _ tw306)) (by decide) (t := (.array (.array .int))) (t' := (.array .int)) (by decide) (by decide)))
  obtain ⟨T69, X69, e69, st69⟩ := getF X63 hx hZ hown (host := "") (Or.inl (hw _ tw300)) Via.refl e63 c68 (g := (mkF m 51 #[SR a0_, SR a1_, SI 0, .unset] [(.ref a0_), (.int 0)])) rfl rfl (hb hby d39_51)
  refine Go.st st69 ?_
  have S_71 := (Keep.refl h18 [a0_]).wr W27 (Or.inl mI0)
  have S_72 : Keep h18 h63 [a0_] := (S_71.trans S_67 (allS (Or.inl mI0) all0))
  have o73 : a0_ < b18 := Nat.lt_of_lt_of_le E0.lt (Nat.le_trans (Keep.of_wr W11).1 lb19)
  have ne74 : a0_ ≠ b18 := Nat.ne_of_lt o73
  have c75 := V24.keep S_72 (ninS (Ne.symm ne74) nin0)
  obtain ⟨cl70, Ar70, -, S70, M70, -, -⟩ := id c75
  refine Go.st (t' := T69.setTop (mkF m 58 #[SR a0_, SR a1_, SI 0, .unset] [])) (fun target kt => ?_) ?_
  · refine X69.arraylength hx (by rw [e69]; exact Ar70.1) (State.isArrayOf_alike hZ.alike Ar70.2.1) (g := (mkF m 54 #[SR a0_, SR a1_, SI 0, .unset] [(.ref b18), (.int 0)])) rfl rfl (hb hby d39_54) _ ?_
    rw [len_of S70 M70]
    refine XS.icmpNo X69.here hx rfl (hb hby d39_55) rfl (tlt (by decide : (0 : Int32) < (3 : Int32))).2.1 ?_
    exact kt
  have J76 : ∀ (T' : State) (L' : List Loc) (X' : Stand p l e (Rm 3 9 21 40) s m #[(.ref a0_), (.ref a1_)] below meth c T' L' 3 9) (N' : Fr n0 L') (e' : T'.heap = h63), Go p e below s (Q39_3 Z a0_ a1_ we wl wle kle y0 y1 y2 l1 l2 xl q0 r0 re0 kr0 k0 q1 r1 re1 kr1 k1 q2 r2 re2 kr2 k2 ed ke h0 n0) (Rm 3 9 21 40).cells (Rm 3 9 21 40).slots (T'.setTop (mkF m 79 #[SR a0_, SR a1_, SI 0, .unset] [(.int k0)])) := by
    intro T77 L77 X77 N77 e77
    refine Go.st (t' := T77.setTop (mkF m 81 #[SR a0_, SR a1_, SI 0, SI k0] [(.ref a0_)])) (fun target kt => ?_) ?_
    · refine XS.istoreN X77.here hx rfl (hb hby d39_79) rfl (l' := #[SR a0_, SR a1_, SI 0, SI k0]) rfl ?_
      refine XS.aloadN X77.here hx rfl (hb hby d39_80) rfl rfl ?_
      exact kt
    obtain ⟨T78, X78, e78, st78⟩ := getF X77 hx hZ hown (host := "") (Or.inl (hw _ tw300)) Via.refl e77 c68 (g := (mkF m 81 #[SR a0_, SR a1_, SI 0, SI k0] [(.ref a0_)])) rfl rfl (hb hby d39_81)
    refine Go.st st78 ?_
    refine Go.st (t' := T78.setTop (mkF m 86 #[SR a0_, SR a1_, SI 0, SI k0] [(.int k0), (.int 0), (.ref b18)])) (fun target kt => ?_) ?_
    · refine XS.iloadN X78.here hx rfl (hb hby d39_84) rfl ?_
      refine XS.iloadN X78.here hx rfl (hb hby d39_85) rfl ?_
      exact kt
    obtain ⟨T79, h79, k79, X79, e79, E79, A79, B79, st79⟩ := newPE (aty := .int) X78 hx hZ (hw _ tw304) e78 (g := (mkF m 86 #[SR a0_, SR a1_, SI 0, SI k0] [(.int k0), (.int 0), (.ref b18)])) rfl (hb hby d39_86) rfl hk0_0 (cap := 2) (own_cap2 hk0_0 hk2_0) (by decide) (by decide) (by decide) (ad := "[I") (by decide)
    obtain ⟨b79, g79⟩ : ∃ z, z = h63.size := ⟨_, rfl⟩
    rw [← g79] at A79 B79 st79
    have lb80 : h63.size ≤ b79 := Nat.le_of_eq g79.symm
    have sz81 : h0.size ≤ b79 := Nat.le_trans K65.1 lb80
    have g82 : n0 ≤ b79 := Nat.le_trans Z0 sz81
    have K83 := K65.ext E79
    have O84 := O66.ext E79
    have V85 : Arv Z h79 b79 k79 .int k0 [] (.int 0) := Arv.new A79 hk0_0
    refine Go.st st79 ?_
    have c86 := c75.ext E79
    obtain ⟨cl87, Ar87, q87, S87, M87, H87, G87⟩ := id c86
    have hin87 : ¬ ((0 : Int32) < 0 ∨ cl87.slots.size ≤ ((0 : Int32)).toNatClampNeg) := inb_of S87 ⟨by decide, by decide⟩
    obtain ⟨T87, h87, X87, e87, W87, st87⟩ := stR X79 hx hZ e79 Ar87 (j := (0 : Int32)) hin87 rfl (Sto.ofVA Ar87 q87 O'18 (Ins.self B79)) (g := (mkF m 88 #[SR a0_, SR a1_, SI 0, SI k0] [(.ref b79), (.int 0), (.ref b18)])) rfl rfl (hb hby d39_88)
    have V88 : Arv Z h87 b18 k18 (.array .int) (3 : Int32) [(.ref b79), .null, .null] .null := Arv.set Ar87 q87 S87 M87 H87 G87 rfl W87 0 rfl (Nat.le_of_ble_eq_true rfl)
    have K89 := K83.wr W87 (Or.inr sz20)
    have O90 := O84.wr W87 g21
    have N87 := Fr.snoc X87 N77 g21
    refine Go.st st87 ?_
    refine Go.st (t' := T87.setTop (mkF m 90 #[SR a0_, SR a1_, SI 0, SI k0] [(.ref a0_)])) (fun target kt => ?_) ?_
    · refine XS.aloadN X87.here hx rfl (hb hby d39_89) rfl rfl ?_
      exact kt
    have S_91 : Keep h45 h87 [a0_, b18] := (((((Keep.refl h45 [a0_, b18]).ext E53).wr W63 (Or.inl mI0)).ext E79).wr W87 (Or.inl mI1))
    have c92 := (((F46.ext E53).other W63 (Or.inr (slot_ne (Or.inr (hw _ tw303)) (Or.inr (hw _ tw306)) (by decide) (t := (.array (.array .int))) (t' := (.array .int)) (by decide) (by decide)))).ext E79).other W87 (Or.inl ne74)
    obtain ⟨T93, X93, e93, st93⟩ := getF X87 hx hZ hown (host := "") (Or.inl (hw _ tw302)) Via.refl e87 c92 (g := (mkF m 90 #[SR a0_, SR a1_, SI 0, SI k0] [(.ref a0_)])) rfl rfl (hb hby d39_90)
    refine Go.st st93 ?_
    refine Go.st (t' := T93.setTop (mkF m 95 #[SR a0_, SR a1_, SI 0, SI k0] [(.int k0), (.int 0), (.ref b35)])) (fun target kt => ?_) ?_
    · refine XS.iloadN X93.here hx rfl (hb hby d39_93) rfl ?_
      refine XS.iloadN X93.here hx rfl (hb hby d39_94) rfl ?_
      exact kt
    obtain ⟨T94, h94, k94, X94, e94, E94, A94, B94, st94⟩ := newPE (aty := .int) X93 hx hZ (hw _ tw304) e93 (g := (mkF m 95 #[SR a0_, SR a1_, SI 0, SI k0] [(.int k0), (.int 0), (.ref b35)])) rfl (hb hby d39_95) rfl hk0_0 (cap := 2) (own_cap2 hk0_0 hk2_0) (by decide) (by decide) (by decide) (ad := "[I") (by decide)
    obtain ⟨b94, g94⟩ : ∃ z, z = h87.size := ⟨_, rfl⟩
    rw [← g94] at A94 B94 st94
    have lb95 : h87.size ≤ b94 := Nat.le_of_eq g94.symm
    have sz96 : h0.size ≤ b94 := Nat.le_trans K89.1 lb95
    have g97 : n0 ≤ b94 := Nat.le_trans Z0 sz96
    have K98 := K89.ext E94
    have O99 := O90.ext E94
    have V100 : Arv Z h94 b94 k94 .int k0 [] (.int 0) := Arv.new A94 hk0_0
    refine Go.st st94 ?_
    have S_101 : Keep h35 h94 [a0_, b18] := (((((((Keep.refl h35 [a0_, b18]).wr W45 (Or.inl mI0)).ext E53).wr W63 (Or.inl mI0)).ext E79).wr W87 (Or.inl mI1)).ext E94)
    have o102 : b18 < b35 := Nat.lt_of_lt_of_le V24.lt (Nat.le_trans (Keep.of_wr W27).1 lb36)
    have ne103 : b18 ≠ b35 := Nat.ne_of_lt o102
    have o104 : a0_ < b35 := Nat.lt_trans o73 o102
    have ne105 : a0_ ≠ b35 := Nat.ne_of_lt o104
    have c106 := V41.keep S_101 (ninS (Ne.symm ne105) (ninS (Ne.symm ne103) nin0))
    obtain ⟨cl107, Ar107, q107, S107, M107, H107, G107⟩ := id c106
    have hin107 : ¬ ((0 : Int32) < 0 ∨ cl107.slots.size ≤ ((0 : Int32)).toNatClampNeg) := inb_of S107 ⟨by decide, by decide⟩
    obtain ⟨T107, h107, X107, e107, W107, st107⟩ := stR X94 hx hZ e94 Ar107 (j := (0 : Int32)) hin107 rfl (Sto.ofVA Ar107 q107 O'35 (Ins.self B94)) (g := (mkF m 97 #[SR a0_, SR a1_, SI 0, SI k0] [(.ref b94), (.int 0), (.ref b35)])) rfl rfl (hb hby d39_97)
    have V108 : Arv Z h107 b35 k35 (.array .int) (3 : Int32) [(.ref b94), .null, .null] .null := Arv.set Ar107 q107 S107 M107 H107 G107 rfl W107 0 rfl (Nat.le_of_ble_eq_true rfl)
    have K109 := K98.wr W107 (Or.inr sz37)
    have O110 := O99.wr W107 g38
    have N107 := Fr.snoc X107 N87 g38
    refine Go.st st107 ?_
    refine Go.st (t' := T107.setTop (mkF m 99 #[SR a0_, SR a1_, SI 0, SI k0] [(.ref a0_)])) (fun target kt => ?_) ?_
    · refine XS.aloadN X107.here hx rfl (hb hby d39_98) rfl rfl ?_
      exact kt
    have S_111 : Keep h63 h107 [b18, b35] := (((((Keep.refl h63 [b18, b35]).ext E79).wr W87 (Or.inl mI0)).ext E94).wr W107 (Or.inl mI1))
    have c112 := c68.keep S_111 (ninS ne74 (ninS ne105 nin0))
    obtain ⟨T113, X113, e113, st113⟩ := getF X107 hx hZ hown (host := "") (Or.inl (hw _ tw300)) Via.refl e107 c112 (g := (mkF m 99 #[SR a0_, SR a1_, SI 0, SI k0] [(.ref a0_)])) rfl rfl (hb hby d39_99)
    refine Go.st st113 ?_
    have S_114 : Keep h87 h107 [b35] := (((Keep.refl h87 [b35]).ext E94).wr W107 (Or.inl mI0))
    have c115 := V88.keep S_114 (ninS ne103 nin0)
    obtain ⟨cl116, Ar116, -, S116, M116, H116, -⟩ := id c115
    have hin116 : ¬ ((0 : Int32) < 0 ∨ cl116.slots.size ≤ ((0 : Int32)).toNatClampNeg) := inb_of S116 ⟨by decide, by decide⟩
    have hat116 : cl116.slots[((0 : Int32)).toNatClampNeg]? = some (.ref b79) := H116.at hin116 rfl
    refine Go.st (t' := T113.setTop (mkF m 105 #[SR a0_, SR a1_, SI 0, SI k0] [(.int (-1)), (.ref b79)])) (fun target kt => ?_) ?_
    · refine XS.iloadN X113.here hx rfl (hb hby d39_102) rfl ?_
      refine X113.aaload hx (j := (0 : Int32)) (v := (.ref b79)) (by rw [e113]; exact Ar116.1) (State.isArrayOf_alike hZ.alike Ar116.2.1) rfl Ar116.2.2 hin116 hat116 (g := (mkF m 103 #[SR a0_, SR a1_, SI 0, SI k0] [(.int 0), (.ref b18)])) rfl rfl (hb hby d39_103) _ ?_
      refine XS.iconst X113.here hx rfl (hb hby d39_104) ?_
      exact kt
    have S_117 := (Keep.refl h79 [b18, b35]).wr W87 (Or.inl mI0)
    have S_118 : Keep h79 h107 [b18, b35] := (S_117.trans S_114 (allS (Or.inl mI1) all0))
    have o119 : b35 < b53 := Nat.lt_of_lt_of_le V41.lt (Nat.le_trans (Keep.of_wr W45).1 lb54)
    have o120 : b53 < b79 := Nat.lt_of_lt_of_le V59.lt (Nat.le_trans (Keep.of_wr W63).1 lb80)
    have o121 : b35 < b79 := Nat.lt_trans o119 o120
    have ne122 : b35 ≠ b79 := Nat.ne_of_lt o121
    have o123 : b18 < b53 := Nat.lt_trans o102 o119
    have o124 : b18 < b79 := Nat.lt_trans o123 o120
    have ne125 : b18 ≠ b79 := Nat.ne_of_lt o124
    have c126 := V85.keep S_118 (ninS (Ne.symm ne125) (ninS (Ne.symm ne122) nin0))
    refine Go.cps (own_cs (W := 0) (argsL := [(.ref b79), (.int (-1))]) (rest := []) X113 hx hZ hown (hw _ tw342) (hw _ tw343) (hw _ tw344) (hw _ tw154) (by decide) e113 (rm45 l Z a0 hw [] b79 k79 k0 h107 n0 O110  c126 g82 hk0_0 hk2_0) rfl (by rw [hml]; rfl) (lenOf pd20 rfl) rfl (Nat.le_of_eq rfl) (hb hby d39_105) rfl (by decide)) ?_
    rintro T127 _ L127 X127 ⟨v128, rfl, Nq127, Kq127, q129, q130⟩
    have N127 := Fr.app N107 Nq127
    have K131 := K109.trans Kq127 (allS (Or.inr sz81) all0)
    have O132 := O110.keep Kq127 (allS g82 all0)
    refine Go.st (t' := T127.setTop (mkF m 109 #[SR a0_, SR a1_, SI 0, SI k0] [(.ref a0_)])) (fun target kt => ?_) ?_
    · refine XS.aloadN X127.here hx rfl (hb hby d39_108) rfl rfl ?_
      exact kt
    have S_133 : Keep h87 T127.heap [b35, b79] := ((((Keep.refl h87 [b35, b79]).ext E94).wr W107 (Or.inl mI0)).trans Kq127 (allS (Or.inl mI1) all0))
    have o134 : a0_ < b53 := Nat.lt_trans o104 o119
    have o135 : a0_ < b79 := Nat.lt_trans o134 o120
    have ne136 : a0_ ≠ b79 := Nat.ne_of_lt o135
    have c137 := c92.keep S_133 (ninS ne105 (ninS ne136 nin0))
    obtain ⟨T138, X138, e138, st138⟩ := getF X127 hx hZ hown (host := "") (Or.inl (hw _ tw302)) Via.refl rfl c137 (g := (mkF m 109 #[SR a0_, SR a1_, SI 0, SI k0] [(.ref a0_)])) rfl rfl (hb hby d39_109)
    refine Go.st st138 ?_
    have c139 := V108.keep Kq127 (ninS ne122 nin0)
    obtain ⟨cl140, Ar140, -, S140, M140, H140, -⟩ := id c139
    have hin140 : ¬ ((0 : Int32) < 0 ∨ cl140.slots.size ≤ ((0 : Int32)).toNatClampNeg) := inb_of S140 ⟨by decide, by decide⟩
    have hat140 : cl140.slots[((0 : Int32)).toNatClampNeg]? = some (.ref b94) := H140.at hin140 rfl
    refine Go.st (t' := T138.setTop (mkF m 115 #[SR a0_, SR a1_, SI 0, SI k0] [(.int (-1)), (.ref b94)])) (fun target kt => ?_) ?_
    · refine XS.iloadN X138.here hx rfl (hb hby d39_112) rfl ?_
      refine X138.aaload hx (j := (0 : Int32)) (v := (.ref b94)) (by rw [e138]; exact Ar140.1) (State.isArrayOf_alike hZ.alike Ar140.2.1) rfl Ar140.2.2 hin140 hat140 (g := (mkF m 113 #[SR a0_, SR a1_, SI 0, SI k0] [(.int 0), (.ref b35)])) rfl rfl (hb hby d39_113) _ ?_
      refine XS.iconst X138.here hx rfl (hb hby d39_114) ?_
      exact kt
    have S_141 : Keep h94 T127.heap [b35, b79] := (((Keep.refl h94 [b35, b79]).wr W107 (Or.inl mI0)).trans Kq127 (allS (Or.inl mI1) all0))
    have o142 : b79 < b94 := Nat.lt_of_lt_of_le V85.lt (Nat.le_trans (Keep.of_wr W87).1 lb95)
    have ne143 : b79 ≠ b94 := Nat.ne_of_lt o142
    have o144 : b35 < b94 := Nat.lt_trans o121 o142
    have ne145 : b35 ≠ b94 := Nat.ne_of_lt o144
    have c146 := V100.keep S_141 (ninS (Ne.symm ne145) (ninS (Ne.symm ne143) nin0))
    refine Go.cps (own_cs (W := 0) (argsL := [(.ref b94), (.int (-1))]) (rest := []) X138 hx hZ hown (hw _ tw342) (hw _ tw343) (hw _ tw344) (hw _ tw154) (by decide) e138 (rm45 l Z a0 hw [] b94 k94 k0 T127.heap n0 O132  c146 g97 hk0_0 hk2_0) rfl (by rw [hml]; rfl) (lenOf pd20 rfl) rfl (Nat.le_of_eq rfl) (hb hby d39_115) rfl (by decide)) ?_
    rintro T147 _ L147 X147 ⟨v148, rfl, Nq147, Kq147, q149, q150⟩
    have N147 := Fr.app N127 Nq147
    have K151 := K131.trans Kq147 (allS (Or.inr sz96) all0)
    have O152 := O132.keep Kq147 (allS g97 all0)
    refine Go.st (t' := T147.setTop (mkF m 51 #[SR a0_, SR a1_, SI 1, SI k0] [(.ref a0_), (.int 1)])) (fun target kt => ?_) ?_
    · refine XS.iinc X147.here hx rfl (hb hby d39_118) rfl (l' := #[SR a0_, SR a1_, SI 1, SI k0]) rfl ?_
      refine XS.goto X147.here hx rfl (pc0 := 121) (pc' := 49) rfl (hb hby d39_121) (by decide) (by decide) ?_
      refine XS.iloadN X147.here hx rfl (hb hby d39_49) rfl ?_
      refine XS.aloadN X147.here hx rfl (hb hby d39_50) rfl rfl ?_
      exact kt
    have S_153 : Keep h107 T147.heap [b79, b94] := (((Keep.refl h107 [b79, b94]).trans Kq127 (allS (Or.inl mI0) all0)).trans Kq147 (allS (Or.inl mI1) all0))
    have o154 : a0_ < b94 := Nat.lt_trans o135 o142
    have ne155 : a0_ ≠ b94 := Nat.ne_of_lt o154
    have c156 := c112.keep S_153 (ninS ne136 (ninS ne155 nin0))
    obtain ⟨T157, X157, e157, st157⟩ := getF X147 hx hZ hown (host := "") (Or.inl (hw _ tw300)) Via.refl rfl c156 (g := (mkF m 51 #[SR a0_, SR a1_, SI 1, SI k0] [(.ref a0_), (.int 1)])) rfl rfl (hb hby d39_51)
    refine Go.st st157 ?_
    have o159 : b18 < b94 := Nat.lt_trans o124 o142
    have ne160 : b18 ≠ b94 := Nat.ne_of_lt o159
    have c161 := c115.keep S_153 (ninS ne125 (ninS ne160 nin0))
    obtain ⟨cl158, Ar158, -, S158, M158, -, -⟩ := id c161
    refine Go.st (t' := T157.setTop (mkF m 58 #[SR a0_, SR a1_, SI 1, SI k0] [])) (fun target kt => ?_) ?_
    · refine X157.arraylength hx (by rw [e157]; exact Ar158.1) (State.isArrayOf_alike hZ.alike Ar158.2.1) (g := (mkF m 54 #[SR a0_, SR a1_, SI 1, SI k0] [(.ref b18), (.int 1)])) rfl rfl (hb hby d39_54) _ ?_
      rw [len_of S158 M158]
      refine XS.icmpNo X157.here hx rfl (hb hby d39_55) rfl (tlt (by decide : (1 : Int32) < (3 : Int32))).2.1 ?_
      exact kt
    have J162 : ∀ (T' : State) (L' : List Loc) (X' : Stand p l e (Rm 3 9 21 40) s m #[(.ref a0_), (.ref a1_)] below meth c T' L' 5 13) (N' : Fr n0 L') (e' : T'.heap = T147.heap), Go p e below s (Q39_3 Z a0_ a1_ we wl wle kle y0 y1 y2 l1 l2 xl q0 r0 re0 kr0 k0 q1 r1 re1 kr1 k1 q2 r2 re2 kr2 k2 ed ke h0 n0) (Rm 3 9 21 40).cells (Rm 3 9 21 40).slots (T'.setTop (mkF m 79 #[SR a0_, SR a1_, SI 1, SI k0] [(.int k1)])) := by
      intro T163 L163 X163 N163 e163
      refine Go.st (t' := T163.setTop (mkF m 81 #[SR a0_, SR a1_, SI 1, SI k1] [(.ref a0_)])) (fun target kt => ?_) ?_
      · refine XS.istoreN X163.here hx rfl (hb hby d39_79) rfl (l' := #[SR a0_, SR a1_, SI 1, SI k1]) rfl ?_
        refine XS.aloadN X163.here hx rfl (hb hby d39_80) rfl rfl ?_
        exact kt
      obtain ⟨T164, X164, e164, st164⟩ := getF X163 hx hZ hown (host := "") (Or.inl (hw _ tw300)) Via.refl e163 c156 (g := (mkF m 81 #[SR a0_, SR a1_, SI 1, SI k1] [(.ref a0_)])) rfl rfl (hb hby d39_81)
      refine Go.st st164 ?_
      refine Go.st (t' := T164.setTop (mkF m 86 #[SR a0_, SR a1_, SI 1, SI k1] [(.int k1), (.int 1), (.ref b18)])) (fun target kt => ?_) ?_
      · refine XS.iloadN X164.here hx rfl (hb hby d39_84) rfl ?_
        refine XS.iloadN X164.here hx rfl (hb hby d39_85) rfl ?_
        exact kt
      obtain ⟨T165, h165, k165, X165, e165, E165, A165, B165, st165⟩ := newPE (aty := .int) X164 hx hZ (hw _ tw304) e164 (g := (mkF m 86 #[SR a0_, SR a1_, SI 1, SI k1] [(.int k1), (.int 1), (.ref b18)])) rfl (hb hby d39_86) rfl hk0_1 (cap := 2) (own_cap2 hk0_1 hk2_1) (by decide) (by decide) (by decide) (ad := "[I") (by decide)
      obtain ⟨b165, g165⟩ : ∃ z, z = T147.heap.size := ⟨_, rfl⟩
      rw [← g165] at A165 B165 st165
      have lb166 : T147.heap.size ≤ b165 := Nat.le_of_eq g165.symm
      have sz167 : h0.size ≤ b165 := Nat.le_trans K151.1 lb166
      have g168 : n0 ≤ b165 := Nat.le_trans Z0 sz167
      have K169 := K151.ext E165
      have O170 := O152.ext E165
      have V171 : Arv Z h165 b165 k165 .int k1 [] (.int 0) := Arv.new A165 hk0_1
      refine Go.st st165 ?_
      have c172 := c161.ext E165
      obtain ⟨cl173, Ar173, q173, S173, M173, H173, G173⟩ := id c172
      have hin173 : ¬ ((1 : Int32) < 0 ∨ cl173.slots.size ≤ ((1 : Int32)).toNatClampNeg) := inb_of S173 ⟨by decide, by decide⟩
      obtain ⟨T173, h173, X173, e173, W173, st173⟩ := stR X165 hx hZ e165 Ar173 (j := (1 : Int32)) hin173 rfl (Sto.ofVA Ar173 q173 O'18 (Ins.self B165)) (g := (mkF m 88 #[SR a0_, SR a1_, SI 1, SI k1] [(.ref b165), (.int 1), (.ref b18)])) rfl rfl (hb hby d39_88)
      have V174 : Arv Z h173 b18 k18 (.array .int) (3 : Int32) [(.ref b79), (.ref b165), .null] .null := Arv.set Ar173 q173 S173 M173 H173 G173 rfl W173 1 rfl (Nat.le_of_ble_eq_true rfl)
      have K175 := K169.wr W173 (Or.inr sz20)
      have O176 := O170.wr W173 g21
      have N173 := Fr.snoc X173 N163 g21
      refine Go.st st173 ?_
      refine Go.st (t' := T173.setTop (mkF m 90 #[SR a0_, SR a1_, SI 1, SI k1] [(.ref a0_)])) (fun target kt => ?_) ?_
      · refine XS.aloadN X173.here hx rfl (hb hby d39_89) rfl rfl ?_
        exact kt
      have S_177 : Keep T127.heap h173 [b94, b18] := ((((Keep.refl T127.heap [b94, b18]).trans Kq147 (allS (Or.inl mI0) all0)).ext E165).wr W173 (Or.inl mI1))
      have c178 := c137.keep S_177 (ninS ne155 (ninS ne74 nin0))
      obtain ⟨T179, X179, e179, st179⟩ := getF X173 hx hZ hown (host := "") (Or.inl (hw _ tw302)) Via.refl e173 c178 (g := (mkF m 90 #[SR a0_, SR a1_, SI 1, SI k1] [(.ref a0_)])) rfl rfl (hb hby d39_90)
      refine Go.st st179 ?_
      refine Go.st (t' := T179.setTop (mkF m 95 #[SR a0_, SR a1_, SI 1, SI k1] [(.int k1), (.int 1), (.ref b35)])) (fun target kt => ?_) ?_
      · refine XS.iloadN X179.here hx rfl (hb hby d39_93) rfl ?_
        refine XS.iloadN X179.here hx rfl (hb hby d39_94) rfl ?_
        exact kt
      obtain ⟨T180, h180, k180, X180, e180, E180, A180, B180, st180⟩ := newPE (aty := .int) X179 hx hZ (hw _ tw304) e179 (g := (mkF m 95 #[SR a0_, SR a1_, SI 1, SI k1] [(.int k1), (.int 1), (.ref b35)])) rfl (hb hby d39_95) rfl hk0_1 (cap := 2) (own_cap2 hk0_1 hk2_1) (by decide) (by decide) (by decide) (ad := "[I") (by decide)
      obtain ⟨b180, g180⟩ : ∃ z, z = h173.size := ⟨_, rfl⟩
      rw [← g180] at A180 B180 st180
      have lb181 : h173.size ≤ b180 := Nat.le_of_eq g180.symm
      have sz182 : h0.size ≤ b180 := Nat.le_trans K175.1 lb181
      have g183 : n0 ≤ b180 := Nat.le_trans Z0 sz182
      have K184 := K175.ext E180
      have O185 := O176.ext E180
      have V186 : Arv Z h180 b180 k180 .int k1 [] (.int 0) := Arv.new A180 hk0_1
      refine Go.st st180 ?_
      have S_187 : Keep T127.heap h180 [b94, b18] := (S_177.ext E180)
      have c188 := c139.keep S_187 (ninS ne145 (ninS (Ne.symm ne103) nin0))
      obtain ⟨cl189, Ar189, q189, S189, M189, H189, G189⟩ := id c188
      have hin189 : ¬ ((1 : Int32) < 0 ∨ cl189.slots.size ≤ ((1 : Int32)).toNatClampNeg) := inb_of S189 ⟨by decide, by decide⟩
      obtain ⟨T189, h189, X189, e189, W189, st189⟩ := stR X180 hx hZ e180 Ar189 (j := (1 : Int32)) hin189 rfl (Sto.ofVA Ar189 q189 O'35 (Ins.self B180)) (g := (mkF m 97 #[SR a0_, SR a1_, SI 1, SI k1] [(.ref b180), (.int 1), (.ref b35)])) rfl rfl (hb hby d39_97)
      have V190 : Arv Z h189 b35 k35 (.array .int) (3 : Int32) [(.ref b94), (.ref b180), .null] .null := Arv.set Ar189 q189 S189 M189 H189 G189 rfl W189 1 rfl (Nat.le_of_ble_eq_true rfl)
      have K191 := K184.wr W189 (Or.inr sz37)
      have O192 := O185.wr W189 g38
      have N189 := Fr.snoc X189 N173 g38
      refine Go.st st189 ?_
      refine Go.st (t' := T189.setTop (mkF m 99 #[SR a0_, SR a1_, SI 1, SI k1] [(.ref a0_)])) (fun target kt => ?_) ?_
      · refine XS.aloadN X189.here hx rfl (hb hby d39_98) rfl rfl ?_
        exact kt
      have S_193 : Keep T147.heap h189 [b18, b35] := (((((Keep.refl T147.heap [b18, b35]).ext E165).wr W173 (Or.inl mI0)).ext E180).wr W189 (Or.inl mI1))
      have c194 := c156.keep S_193 (ninS ne74 (ninS ne105 nin0))
      obtain ⟨T195, X195, e195, st195⟩ := getF X189 hx hZ hown (host := "") (Or.inl (hw _ tw300)) Via.refl e189 c194 (g := (mkF m 99 #[SR a0_, SR a1_, SI 1, SI k1] [(.ref a0_)])) rfl rfl (hb hby d39_99)
      refine Go.st st195 ?_
      have S_196 : Keep h173 h189 [b35] := (((Keep.refl h173 [b35]).ext E180).wr W189 (Or.inl mI0))
      have c197 := V174.keep S_196 (ninS ne103 nin0)
      obtain ⟨cl198, Ar198, -, S198, M198, H198, -⟩ := id c197
      have hin198 : ¬ ((1 : Int32) < 0 ∨ cl198.slots.size ≤ ((1 : Int32)).toNatClampNeg) := inb_of S198 ⟨by decide, by decide⟩
      have hat198 : cl198.slots[((1 : Int32)).toNatClampNeg]? = some (.ref b165) := H198.at hin198 rfl
      refine Go.st (t' := T195.setTop (mkF m 105 #[SR a0_, SR a1_, SI 1, SI k1] [(.int (-1)), (.ref b165)])) (fun target kt => ?_) ?_
      · refine XS.iloadN X195.here hx rfl (hb hby d39_102) rfl ?_
        refine X195.aaload hx (j := (1 : Int32)) (v := (.ref b165)) (by rw [e195]; exact Ar198.1) (State.isArrayOf_alike hZ.alike Ar198.2.1) rfl Ar198.2.2 hin198 hat198 (g := (mkF m 103 #[SR a0_, SR a1_, SI 1, SI k1] [(.int 1), (.ref b18)])) rfl rfl (hb hby d39_103) _ ?_
        refine XS.iconst X195.here hx rfl (hb hby d39_104) ?_
        exact kt
      have S_199 := (Keep.refl h165 [b18, b35]).wr W173 (Or.inl mI0)
      have S_200 : Keep h165 h189 [b18, b35] := (S_199.trans S_196 (allS (Or.inl mI1) all0))
      have o201 : b94 < b165 := Nat.lt_of_lt_of_le V100.lt (Nat.le_trans (Nat.le_trans (Nat.le_trans (Keep.of_wr W107).1 Kq127.1) Kq147.1) lb166)
      have o202 : b35 < b165 := Nat.lt_trans o144 o201
      have ne203 : b35 ≠ b165 := Nat.ne_of_lt o202
      have o204 : b18 < b165 := Nat.lt_trans o159 o201
      have ne205 : b18 ≠ b165 := Nat.ne_of_lt o204
      have c206 := V171.keep S_200 (ninS (Ne.symm ne205) (ninS (Ne.symm ne203) nin0))
      refine Go.cps (own_cs (W := 0) (argsL := [(.ref b165), (.int (-1))]) (rest := []) X195 hx hZ hown (hw _ tw342) (hw _ tw343) (hw _ tw344) (hw _ tw154) (by decide) e195 (rm45 l Z a0 hw [] b165 k165 k1 h189 n0 O192  c206 g168 hk0_1 hk2_1) rfl (by rw [hml]; rfl) (lenOf pd20 rfl) rfl (Nat.le_of_eq rfl) (hb hby d39_105) rfl (by decide)) ?_
      rintro T207 _ L207 X207 ⟨v208, rfl, Nq207, Kq207, q209, q210⟩
      have N207 := Fr.app N189 Nq207
      have K211 := K191.trans Kq207 (allS (Or.inr sz167) all0)
      have O212 := O192.keep Kq207 (allS g168 all0)
      refine Go.st (t' := T207.setTop (mkF m 109 #[SR a0_, SR a1_, SI 1, SI k1] [(.ref a0_)])) (fun target kt => ?_) ?_
      · refine XS.aloadN X207.here hx rfl (hb hby d39_108) rfl rfl ?_
        exact kt
      have S_213 : Keep h173 T207.heap [b35, b165] := ((((Keep.refl h173 [b35, b165]).ext E180).wr W189 (Or.inl mI0)).trans Kq207 (allS (Or.inl mI1) all0))
      have o214 : a0_ < b165 := Nat.lt_trans o154 o201
      have ne215 : a0_ ≠ b165 := Nat.ne_of_lt o214
      have c216 := c178.keep S_213 (ninS ne105 (ninS ne215 nin0))
      obtain ⟨T217, X217, e217, st217⟩ := getF X207 hx hZ hown (host := "") (Or.inl (hw _ tw302)) Via.refl rfl c216 (g := (mkF m 109 #[SR a0_, SR a1_, SI 1, SI k1] [(.ref a0_)])) rfl rfl (hb hby d39_109)
      refine Go.st st217 ?_
      have c218 := V190.keep Kq207 (ninS ne203 nin0)
      obtain ⟨cl219, Ar219, -, S219, M219, H219, -⟩ := id c218
      have hin219 : ¬ ((1 : Int32) < 0 ∨ cl219.slots.size ≤ ((1 : Int32)).toNatClampNeg) := inb_of S219 ⟨by decide, by decide⟩
      have hat219 : cl219.slots[((1 : Int32)).toNatClampNeg]? = some (.ref b180) := H219.at hin219 rfl
      refine Go.st (t' := T217.setTop (mkF m 115 #[SR a0_, SR a1_, SI 1, SI k1] [(.int (-1)), (.ref b180)])) (fun target kt => ?_) ?_
      · refine XS.iloadN X217.here hx rfl (hb hby d39_112) rfl ?_
        refine X217.aaload hx (j := (1 : Int32)) (v := (.ref b180)) (by rw [e217]; exact Ar219.1) (State.isArrayOf_alike hZ.alike Ar219.2.1) rfl Ar219.2.2 hin219 hat219 (g := (mkF m 113 #[SR a0_, SR a1_, SI 1, SI k1] [(.int 1), (.ref b35)])) rfl rfl (hb hby d39_113) _ ?_
        refine XS.iconst X217.here hx rfl (hb hby d39_114) ?_
        exact kt
      have S_220 : Keep h180 T207.heap [b35, b165] := (((Keep.refl h180 [b35, b165]).wr W189 (Or.inl mI0)).trans Kq207 (allS (Or.inl mI1) all0))
      have o221 : b165 < b180 := Nat.lt_of_lt_of_le V171.lt (Nat.le_trans (Keep.of_wr W173).1 lb181)
      have ne222 : b165 ≠ b180 := Nat.ne_of_lt o221
      have o223 : b35 < b180 := Nat.lt_trans o202 o221
      have ne224 : b35 ≠ b180 := Nat.ne_of_lt o223
      have c225 := V186.keep S_220 (ninS (Ne.symm ne224) (ninS (Ne.symm ne222) nin0))
      refine Go.cps (own_cs (W := 0) (argsL := [(.ref b180), (.int (-1))]) (rest := []) X217 hx hZ hown (hw _ tw342) (hw _ tw343) (hw _ tw344) (hw _ tw154) (by decide) e217 (rm45 l Z a0 hw [] b180 k180 k1 T207.heap n0 O212  c225 g183 hk0_1 hk2_1) rfl (by rw [hml]; rfl) (lenOf pd20 rfl) rfl (Nat.le_of_eq rfl) (hb hby d39_115) rfl (by decide)) ?_
      rintro T226 _ L226 X226 ⟨v227, rfl, Nq226, Kq226, q228, q229⟩
      have N226 := Fr.app N207 Nq226
      have K230 := K211.trans Kq226 (allS (Or.inr sz182) all0)
      have O231 := O212.keep Kq226 (allS g183 all0)
      refine Go.st (t' := T226.setTop (mkF m 51 #[SR a0_, SR a1_, SI 2, SI k1] [(.ref a0_), (.int 2)])) (fun target kt => ?_) ?_
      · refine XS.iinc X226.here hx rfl (hb hby d39_118) rfl (l' := #[SR a0_, SR a1_, SI 2, SI k1]) rfl ?_
        refine XS.goto X226.here hx rfl (pc0 := 121) (pc' := 49) rfl (hb hby d39_121) (by decide) (by decide) ?_
        refine XS.iloadN X226.here hx rfl (hb hby d39_49) rfl ?_
        refine XS.aloadN X226.here hx rfl (hb hby d39_50) rfl rfl ?_
        exact kt
      have S_232 : Keep h189 T226.heap [b165, b180] := (((Keep.refl h189 [b165, b180]).trans Kq207 (allS (Or.inl mI0) all0)).trans Kq226 (allS (Or.inl mI1) all0))
      have o233 : a0_ < b180 := Nat.lt_trans o214 o221
      have ne234 : a0_ ≠ b180 := Nat.ne_of_lt o233
      have c235 := c194.keep S_232 (ninS ne215 (ninS ne234 nin0))
      obtain ⟨T236, X236, e236, st236⟩ := getF X226 hx hZ hown (host := "") (Or.inl (hw _ tw300)) Via.refl rfl c235 (g := (mkF m 51 #[SR a0_, SR a1_, SI 2, SI k1] [(.ref a0_), (.int 2)])) rfl rfl (hb hby d39_51)
      refine Go.st st236 ?_
      have o238 : b18 < b180 := Nat.lt_trans o204 o221
      have ne239 : b18 ≠ b180 := Nat.ne_of_lt o238
      have c240 := c197.keep S_232 (ninS ne205 (ninS ne239 nin0))
      obtain ⟨cl237, Ar237, -, S237, M237, -, -⟩ := id c240
      refine Go.st (t' := T236.setTop (mkF m 58 #[SR a0_, SR a1_, SI 2, SI k1] [])) (fun target kt => ?_) ?_
      · refine X236.arraylength hx (by rw [e236]; exact Ar237.1) (State.isArrayOf_alike hZ.alike Ar237.2.1) (g := (mkF m 54 #[SR a0_, SR a1_, SI 2, SI k1] [(.ref b18), (.int 2)])) rfl rfl (hb hby d39_54) _ ?_
        rw [len_of S237 M237]
        refine XS.icmpNo X236.here hx rfl (hb hby d39_55) rfl (tlt (by decide : (2 : Int32) < (3 : Int32))).2.1 ?_
        exact kt
      have J241 : ∀ (T' : State) (L' : List Loc) (X' : Stand p l e (Rm 3 9 21 40) s m #[(.ref a0_), (.ref a1_)] below meth c T' L' 7 17) (N' : Fr n0 L') (e' : T'.heap = T226.heap), Go p e below s (Q39_3 Z a0_ a1_ we wl wle kle y0 y1 y2 l1 l2 xl q0 r0 re0 kr0 k0 q1 r1 re1 kr1 k1 q2 r2 re2 kr2 k2 ed ke h0 n0) (Rm 3 9 21 40).cells (Rm 3 9 21 40).slots (T'.setTop (mkF m 79 #[SR a0_, SR a1_, SI 2, SI k1] [(.int k2)])) := by
        intro T242 L242 X242 N242 e242
        refine Go.st (t' := T242.setTop (mkF m 81 #[SR a0_, SR a1_, SI 2, SI k2] [(.ref a0_)])) (fun target kt => ?_) ?_
        · refine XS.istoreN X242.here hx rfl (hb hby d39_79) rfl (l' := #[SR a0_, SR a1_, SI 2, SI k2]) rfl ?_
          refine XS.aloadN X242.here hx rfl (hb hby d39_80) rfl rfl ?_
          exact kt
        obtain ⟨T243, X243, e243, st243⟩ := getF X242 hx hZ hown (host := "") (Or.inl (hw _ tw300)) Via.refl e242 c235 (g := (mkF m 81 #[SR a0_, SR a1_, SI 2, SI k2] [(.ref a0_)])) rfl rfl (hb hby d39_81)
        refine Go.st st243 ?_
        refine Go.st (t' := T243.setTop (mkF m 86 #[SR a0_, SR a1_, SI 2, SI k2] [(.int k2), (.int 2), (.ref b18)])) (fun target kt => ?_) ?_
        · refine XS.iloadN X243.here hx rfl (hb hby d39_84) rfl ?_
          refine XS.iloadN X243.here hx rfl (hb hby d39_85) rfl ?_
          exact kt
        obtain ⟨T244, h244, k244, X244, e244, E244, A244, B244, st244⟩ := newPE (aty := .int) X243 hx hZ (hw _ tw304) e243 (g := (mkF m 86 #[SR a0_, SR a1_, SI 2, SI k2] [(.int k2), (.int 2), (.ref b18)])) rfl (hb hby d39_86) rfl hk0_2 (cap := 2) (own_cap2 hk0_2 hk2_2) (by decide) (by decide) (by decide) (ad := "[I") (by decide)
        obtain ⟨b244, g244⟩ : ∃ z, z = T226.heap.size := ⟨_, rfl⟩
        rw [← g244] at A244 B244 st244
        have lb245 : T226.heap.size ≤ b244 := Nat.le_of_eq g244.symm
        have sz246 : h0.size ≤ b244 := Nat.le_trans K230.1 lb245
        have g247 : n0 ≤ b244 := Nat.le_trans Z0 sz246
        have K248 := K230.ext E244
        have O249 := O231.ext E244
        have V250 : Arv Z h244 b244 k244 .int k2 [] (.int 0) := Arv.new A244 hk0_2
        refine Go.st st244 ?_
        have c251 := c240.ext E244
        obtain ⟨cl252, Ar252, q252, S252, M252, H252, G252⟩ := id c251
        have hin252 : ¬ ((2 : Int32) < 0 ∨ cl252.slots.size ≤ ((2 : Int32)).toNatClampNeg) := inb_of S252 ⟨by decide, by decide⟩
        obtain ⟨T252, h252, X252, e252, W252, st252⟩ := stR X244 hx hZ e244 Ar252 (j := (2 : Int32)) hin252 rfl (Sto.ofVA Ar252 q252 O'18 (Ins.self B244)) (g := (mkF m 88 #[SR a0_, SR a1_, SI 2, SI k2] [(.ref b244), (.int 2), (.ref b18)])) rfl rfl (hb hby d39_88)
        have V253 : Arv Z h252 b18 k18 (.array .int) (3 : Int32) [(.ref b79), (.ref b165), (.ref b244)] .null := Arv.set Ar252 q252 S252 M252 H252 G252 rfl W252 2 rfl (Nat.le_of_ble_eq_true rfl)
        have K254 := K248.wr W252 (Or.inr sz20)
        have O255 := O249.wr W252 g21
        have N252 := Fr.snoc X252 N242 g21
        refine Go.st st252 ?_
        refine Go.st (t' := T252.setTop (mkF m 90 #[SR a0_, SR a1_, SI 2, SI k2] [(.ref a0_)])) (fun target kt => ?_) ?_
        · refine XS.aloadN X252.here hx rfl (hb hby d39_89) rfl rfl ?_
          exact kt
        have S_256 : Keep T207.heap h252 [b180, b18] := ((((Keep.refl T207.heap [b180, b18]).trans Kq226 (allS (Or.inl mI0) all0)).ext E244).wr W252 (Or.inl mI1))
        have c257 := c216.keep S_256 (ninS ne234 (ninS ne74 nin0))
        obtain ⟨T258, X258, e258, st258⟩ := getF X252 hx hZ hown (host := "") (Or.inl (hw _ tw302)) Via.refl e252 c257 (g := (mkF m 90 #[SR a0_, SR a1_, SI 2, SI k2] [(.ref a0_)])) rfl rfl (hb hby d39_90)
        refine Go.st st258 ?_
        refine Go.st (t' := T258.setTop (mkF m 95 #[SR a0_, SR a1_, SI 2, SI k2] [(.int k2), (.int 2), (.ref b35)])) (fun target kt => ?_) ?_
        · refine XS.iloadN X258.here hx rfl (hb hby d39_93) rfl ?_
          refine XS.iloadN X258.here hx rfl (hb hby d39_94) rfl ?_
          exact kt
        obtain ⟨T259, h259, k259, X259, e259, E259, A259, B259, st259⟩ := newPE (aty := .int) X258 hx hZ (hw _ tw304) e258 (g := (mkF m 95 #[SR a0_, SR a1_, SI 2, SI k2] [(.int k2), (.int 2), (.ref b35)])) rfl (hb hby d39_95) rfl hk0_2 (cap := 2) (own_cap2 hk0_2 hk2_2) (by decide) (by decide) (by decide) (ad := "[I") (by decide)
        obtain ⟨b259, g259⟩ : ∃ z, z = h252.size := ⟨_, rfl⟩
        rw [← g259] at A259 B259 st259
        have lb260 : h252.size ≤ b259 := Nat.le_of_eq g259.symm
        have sz261 : h0.size ≤ b259 := Nat.le_trans K254.1 lb260
        have g262 : n0 ≤ b259 := Nat.le_trans Z0 sz261
        have K263 := K254.ext E259
        have O264 := O255.ext E259
        have V265 : Arv Z h259 b259 k259 .int k2 [] (.int 0) := Arv.new A259 hk0_2
        refine Go.st st259 ?_
        have S_266 : Keep T207.heap h259 [b180, b18] := (S_256.ext E259)
        have c267 := c218.keep S_266 (ninS ne224 (ninS (Ne.symm ne103) nin0))
        obtain ⟨cl268, Ar268, q268, S268, M268, H268, G268⟩ := id c267
        have hin268 : ¬ ((2 : Int32) < 0 ∨ cl268.slots.size ≤ ((2 : Int32)).toNatClampNeg) := inb_of S268 ⟨by decide, by decide⟩
        obtain ⟨T268, h268, X268, e268, W268, st268⟩ := stR X259 hx hZ e259 Ar268 (j := (2 : Int32)) hin268 rfl (Sto.ofVA Ar268 q268 O'35 (Ins.self B259)) (g := (mkF m 97 #[SR a0_, SR a1_, SI 2, SI k2] [(.ref b259), (.int 2), (.ref b35)])) rfl rfl (hb hby d39_97)
        have V269 : Arv Z h268 b35 k35 (.array .int) (3 : Int32) [(.ref b94), (.ref b180), (.ref b259)] .null := Arv.set Ar268 q268 S268 M268 H268 G268 rfl W268 2 rfl (Nat.le_of_ble_eq_true rfl)
        have K270 := K263.wr W268 (Or.inr sz37)
        have O271 := O264.wr W268 g38
        have N268 := Fr.snoc X268 N252 g38
        refine Go.st st268 ?_
        refine Go.st (t' := T268.setTop (mkF m 99 #[SR a0_, SR a1_, SI 2, SI k2] [(.ref a0_)])) (fun target kt => ?_) ?_
        · refine XS.aloadN X268.here hx rfl (hb hby d39_98) rfl rfl ?_
          exact kt
        have S_272 : Keep T226.heap h268 [b18, b35] := (((((Keep.refl T226.heap [b18, b35]).ext E244).wr W252 (Or.inl mI0)).ext E259).wr W268 (Or.inl mI1))
        have c273 := c235.keep S_272 (ninS ne74 (ninS ne105 nin0))
        obtain ⟨T274, X274, e274, st274⟩ := getF X268 hx hZ hown (host := "") (Or.inl (hw _ tw300)) Via.refl e268 c273 (g := (mkF m 99 #[SR a0_, SR a1_, SI 2, SI k2] [(.ref a0_)])) rfl rfl (hb hby d39_99)
        refine Go.st st274 ?_
        have S_275 : Keep h252 h268 [b35] := (((Keep.refl h252 [b35]).ext E259).wr W268 (Or.inl mI0))
        have c276 := V253.keep S_275 (ninS ne103 nin0)
        obtain ⟨cl277, Ar277, -, S277, M277, H277, -⟩ := id c276
        have hin277 : ¬ ((2 : Int32) < 0 ∨ cl277.slots.size ≤ ((2 : Int32)).toNatClampNeg) := inb_of S277 ⟨by decide, by decide⟩
        have hat277 : cl277.slots[((2 : Int32)).toNatClampNeg]? = some (.ref b244) := H277.at hin277 rfl
        refine Go.st (t' := T274.setTop (mkF m 105 #[SR a0_, SR a1_, SI 2, SI k2] [(.int (-1)), (.ref b244)])) (fun target kt => ?_) ?_
        · refine XS.iloadN X274.here hx rfl (hb hby d39_102) rfl ?_
          refine X274.aaload hx (j := (2 : Int32)) (v := (.ref b244)) (by rw [e274]; exact Ar277.1) (State.isArrayOf_alike hZ.alike Ar277.2.1) rfl Ar277.2.2 hin277 hat277 (g := (mkF m 103 #[SR a0_, SR a1_, SI 2, SI k2] [(.int 2), (.ref b18)])) rfl rfl (hb hby d39_103) _ ?_
          refine XS.iconst X274.here hx rfl (hb hby d39_104) ?_
          exact kt
        have S_278 := (Keep.refl h244 [b18, b35]).wr W252 (Or.inl mI0)
        have S_279 : Keep h244 h268 [b18, b35] := (S_278.trans S_275 (allS (Or.inl mI1) all0))
        have o280 : b180 < b244 := Nat.lt_of_lt_of_le V186.lt (Nat.le_trans (Nat.le_trans (Nat.le_trans (Keep.of_wr W189).1 Kq207.1) Kq226.1) lb245)
        have o281 : b35 < b244 := Nat.lt_trans o223 o280
        have ne282 : b35 ≠ b244 := Nat.ne_of_lt o281
        have o283 : b18 < b244 := Nat.lt_trans o238 o280
        have ne284 : b18 ≠ b244 := Nat.ne_of_lt o283
        have c285 := V250.keep S_279 (ninS (Ne.symm ne284) (ninS (Ne.symm ne282) nin0))
        refine Go.cps (own_cs (W := 0) (argsL := [(.ref b244), (.int (-1))]) (rest := []) X274 hx hZ hown (hw _ tw342) (hw _ tw343) (hw _ tw344) (hw _ tw154) (by decide) e274 (rm45 l Z a0 hw [] b244 k244 k2 h268 n0 O271  c285 g247 hk0_2 hk2_2) rfl (by rw [hml]; rfl) (lenOf pd20 rfl) rfl (Nat.le_of_eq rfl) (hb hby d39_105) rfl (by decide)) ?_
        rintro T286 _ L286 X286 ⟨v287, rfl, Nq286, Kq286, q288, q289⟩
        have N286 := Fr.app N268 Nq286
        have K290 := K270.trans Kq286 (allS (Or.inr sz246) all0)
        have O291 := O271.keep Kq286 (allS g247 all0)
        refine Go.st (t' := T286.setTop (mkF m 109 #[SR a0_, SR a1_, SI 2, SI k2] [(.ref a0_)])) (fun target kt => ?_) ?_
        · refine XS.aloadN X286.here hx rfl (hb hby d39_108) rfl rfl ?_
          exact kt
        have S_292 : Keep h252 T286.heap [b35, b244] := ((((Keep.refl h252 [b35, b244]).ext E259).wr W268 (Or.inl mI0)).trans Kq286 (allS (Or.inl mI1) all0))
        have o293 : a0_ < b244 := Nat.lt_trans o233 o280
        have ne294 : a0_ ≠ b244 := Nat.ne_of_lt o293
        have c295 := c257.keep S_292 (ninS ne105 (ninS ne294 nin0))
        obtain ⟨T296, X296, e296, st296⟩ := getF X286 hx hZ hown (host := "") (Or.inl (hw _ tw302)) Via.refl rfl c295 (g := (mkF m 109 #[SR a0_, SR a1_, SI 2, SI k2] [(.ref a0_)])) rfl rfl (hb hby d39_109)
        refine Go.st st296 ?_
        have c297 := V269.keep Kq286 (ninS ne282 nin0)
        obtain ⟨cl298, Ar298, -, S298, M298, H298, -⟩ := id c297
        have hin298 : ¬ ((2 : Int32) < 0 ∨ cl298.slots.size ≤ ((2 : Int32)).toNatClampNeg) := inb_of S298 ⟨by decide, by decide⟩
        have hat298 : cl298.slots[((2 : Int32)).toNatClampNeg]? = some (.ref b259) := H298.at hin298 rfl
        refine Go.st (t' := T296.setTop (mkF m 115 #[SR a0_, SR a1_, SI 2, SI k2] [(.int (-1)), (.ref b259)])) (fun target kt => ?_) ?_
        · refine XS.iloadN X296.here hx rfl (hb hby d39_112) rfl ?_
          refine X296.aaload hx (j := (2 : Int32)) (v := (.ref b259)) (by rw [e296]; exact Ar298.1) (State.isArrayOf_alike hZ.alike Ar298.2.1) rfl Ar298.2.2 hin298 hat298 (g := (mkF m 113 #[SR a0_, SR a1_, SI 2, SI k2] [(.int 2), (.ref b35)])) rfl rfl (hb hby d39_113) _ ?_
          refine XS.iconst X296.here hx rfl (hb hby d39_114) ?_
          exact kt
        have S_299 : Keep h259 T286.heap [b35, b244] := (((Keep.refl h259 [b35, b244]).wr W268 (Or.inl mI0)).trans Kq286 (allS (Or.inl mI1) all0))
        have o300 : b244 < b259 := Nat.lt_of_lt_of_le V250.lt (Nat.le_trans (Keep.of_wr W252).1 lb260)
        have ne301 : b244 ≠ b259 := Nat.ne_of_lt o300
        have o302 : b35 < b259 := Nat.lt_trans o281 o300
        have ne303 : b35 ≠ b259 := Nat.ne_of_lt o302
        have c304 := V265.keep S_299 (ninS (Ne.symm ne303) (ninS (Ne.symm ne301) nin0))
        refine Go.cps (own_cs (W := 0) (argsL := [(.ref b259), (.int (-1))]) (rest := []) X296 hx hZ hown (hw _ tw342) (hw _ tw343) (hw _ tw344) (hw _ tw154) (by decide) e296 (rm45 l Z a0 hw [] b259 k259 k2 T286.heap n0 O291  c304 g262 hk0_2 hk2_2) rfl (by rw [hml]; rfl) (lenOf pd20 rfl) rfl (Nat.le_of_eq rfl) (hb hby d39_115) rfl (by decide)) ?_
        rintro T305 _ L305 X305 ⟨v306, rfl, Nq305, Kq305, q307, q308⟩
        have N305 := Fr.app N286 Nq305
        have K309 := K290.trans Kq305 (allS (Or.inr sz261) all0)
        have O310 := O291.keep Kq305 (allS g262 all0)
        refine Go.st (t' := T305.setTop (mkF m 51 #[SR a0_, SR a1_, SI 3, SI k2] [(.ref a0_), (.int 3)])) (fun target kt => ?_) ?_
        · refine XS.iinc X305.here hx rfl (hb hby d39_118) rfl (l' := #[SR a0_, SR a1_, SI 3, SI k2]) rfl ?_
          refine XS.goto X305.here hx rfl (pc0 := 121) (pc' := 49) rfl (hb hby d39_121) (by decide) (by decide) ?_
          refine XS.iloadN X305.here hx rfl (hb hby d39_49) rfl ?_
          refine XS.aloadN X305.here hx rfl (hb hby d39_50) rfl rfl ?_
          exact kt
        have S_311 : Keep h268 T305.heap [b244, b259] := (((Keep.refl h268 [b244, b259]).trans Kq286 (allS (Or.inl mI0) all0)).trans Kq305 (allS (Or.inl mI1) all0))
        have o312 : a0_ < b259 := Nat.lt_trans o293 o300
        have ne313 : a0_ ≠ b259 := Nat.ne_of_lt o312
        have c314 := c273.keep S_311 (ninS ne294 (ninS ne313 nin0))
        obtain ⟨T315, X315, e315, st315⟩ := getF X305 hx hZ hown (host := "") (Or.inl (hw _ tw300)) Via.refl rfl c314 (g := (mkF m 51 #[SR a0_, SR a1_, SI 3, SI k2] [(.ref a0_), (.int 3)])) rfl rfl (hb hby d39_51)
        refine Go.st st315 ?_
        have o317 : b18 < b259 := Nat.lt_trans o283 o300
        have ne318 : b18 ≠ b259 := Nat.ne_of_lt o317
        have c319 := c276.keep S_311 (ninS ne284 (ninS ne318 nin0))
        obtain ⟨cl316, Ar316, -, S316, M316, -, -⟩ := id c319
        refine Go.st (t' := T315.setTop (mkF m 124 #[SR a0_, SR a1_, SI 3, SI k2] [])) (fun target kt => ?_) ?_
        · refine X315.arraylength hx (by rw [e315]; exact Ar316.1) (State.isArrayOf_alike hZ.alike Ar316.2.1) (g := (mkF m 54 #[SR a0_, SR a1_, SI 3, SI k2] [(.ref b18), (.int 3)])) rfl rfl (hb hby d39_54) _ ?_
          rw [len_of S316 M316]
          refine XS.icmpYes X315.here hx rfl (pc0 := 55) (pc' := 124) rfl (hb hby d39_55) rfl (flt (by decide : ¬ ((3 : Int32) < (3 : Int32)))).2.1 (by decide) (by decide) ?_
          exact kt
        have S_320 := ((((((Keep.refl h53 [a0_, b18, b35]).wr W63 (Or.inl mI0)).ext E79).wr W87 (Or.inl mI1)).ext E94).wr W107 (Or.inl mI2)).trans Kq127 (allS (Or.inr (Nat.le_trans (Keep.of_wr W63).1 lb80)) all0)
        have S_321 := (((((S_320.trans Kq147 (allS (Or.inr (Nat.le_trans (Nat.le_trans (Nat.le_trans (Keep.of_wr W63).1 E79.1) (Keep.of_wr W87).1) lb95)) all0)).ext E165).wr W173 (Or.inl mI1)).ext E180).wr W189 (Or.inl mI2)).trans Kq207 (allS (Or.inr (Nat.le_trans (Nat.le_trans S_320.1 Kq147.1) lb166)) all0)
        have S_322 := ((((S_321.trans Kq226 (allS (Or.inr (Nat.le_trans (Nat.le_trans S_320.1 (Nat.le_trans (Nat.le_trans Kq147.1 E165.1) (Keep.of_wr W173).1)) lb181)) all0)).ext E244).wr W252 (Or.inl mI1)).ext E259).wr W268 (Or.inl mI2)
        have S_323 : Keep h53 T305.heap [a0_, b18, b35] := (S_322.trans S_311 (allS (Or.inr (Nat.le_trans (Nat.le_trans S_321.1 Kq226.1) lb245)) (allS (Or.inr (Nat.le_trans (Nat.le_trans S_321.1 (Nat.le_trans (Nat.le_trans Kq226.1 E244.1) (Keep.of_wr W252).1)) lb260)) all0)))
        have c324 := c62.keep S_323
        have S_325 := ((((((Keep.refl T127.heap [b94, b18, b35]).trans Kq147 (allS (Or.inl mI0) all0)).ext E165).wr W173 (Or.inl mI1)).ext E180).wr W189 (Or.inl mI2)).trans Kq207 (allS (Or.inr (Nat.le_trans Kq147.1 lb166)) all0)
        have S_326 := ((((S_325.trans Kq226 (allS (Or.inr (Nat.le_trans (Nat.le_trans (Nat.le_trans Kq147.1 E165.1) (Keep.of_wr W173).1) lb181)) all0)).ext E244).wr W252 (Or.inl mI1)).ext E259).wr W268 (Or.inl mI2)
        have S_327 : Keep T127.heap T305.heap [b94, b18, b35] := (S_326.trans S_311 (allS (Or.inr (Nat.le_trans (Nat.le_trans S_325.1 Kq226.1) lb245)) (allS (Or.inr (Nat.le_trans (Nat.le_trans S_325.1 (Nat.le_trans (Nat.le_trans Kq226.1 E244.1) (Keep.of_wr W252).1)) lb260)) all0)))
        have c328 := q129.keep S_327 (ninS ne143 (ninS (Ne.symm ne125) (ninS (Ne.symm ne122) nin0)))
        have S_329 := (((((Keep.refl T207.heap [b180, b18, b35]).trans Kq226 (allS (Or.inl mI0) all0)).ext E244).wr W252 (Or.inl mI1)).ext E259).wr W268 (Or.inl mI2)
        have S_330 : Keep T207.heap T305.heap [b180, b18, b35] := (S_329.trans S_311 (allS (Or.inr (Nat.le_trans Kq226.1 lb245)) (allS (Or.inr (Nat.le_trans (Nat.le_trans (Nat.le_trans Kq226.1 E244.1) (Keep.of_wr W252).1) lb260)) all0)))
        have c331 := q209.keep S_330 (ninS ne222 (ninS (Ne.symm ne205) (ninS (Ne.symm ne203) nin0)))
        have c332 := q288.keep Kq305 (ninS ne301 nin0)
        refine Go.ret X315 (v := none) (fun _ => rfl) hlk (fun fs hr => X315.returnOut hx hret (hb hby d39_124) hr) ?_ (by decide) (by decide)
        show Q39_3 Z a0_ a1_ we wl wle kle y0 y1 y2 l1 l2 xl q0 r0 re0 kr0 k0 q1 r1 re1 kr1 k1 q2 r2 re2 kr2 k2 ed ke h0 n0 _ T315.heap _
        rw [e315]
        exact ⟨b18, k18, b79, b165, b244, v128, v208, v287, rfl, N305, K309, c324, c314, c319, c328, q130, c331, q210, c332, q289⟩
      refine Go.st (t' := T236.setTop (mkF m 60 #[SR a0_, SR a1_, SI 2, SI k1] [(.int 2), (.ref a1_)])) (fun target kt => ?_) ?_
      · refine XS.aloadN X236.here hx rfl (hb hby d39_58) rfl rfl ?_
        refine XS.iloadN X236.here hx rfl (hb hby d39_59) rfl ?_
        exact kt
      have S_333 := ((((((Keep.refl h45 [a0_, b18, b35]).ext E53).wr W63 (Or.inl mI0)).ext E79).wr W87 (Or.inl mI1)).ext E94).wr W107 (Or.inl mI2)
      have S_334 := (((((S_333.trans Kq127 (allS (Or.inr (Nat.le_trans (Nat.le_trans E53.1 (Keep.of_wr W63).1) lb80)) all0)).trans Kq147 (allS (Or.inr (Nat.le_trans (Nat.le_trans (Nat.le_trans (Nat.le_trans E53.1 (Keep.of_wr W63).1) E79.1) (Keep.of_wr W87).1) lb95)) all0)).ext E165).wr W173 (Or.inl mI1)).ext E180).wr W189 (Or.inl mI2)
      have S_335 : Keep h45 T226.heap [a0_, b18, b35] := (S_334.trans S_232 (allS (Or.inr (Nat.le_trans (Nat.le_trans S_333.1 (Nat.le_trans Kq127.1 Kq147.1)) lb166)) (allS (Or.inr (Nat.le_trans (Nat.le_trans S_333.1 (Nat.le_trans (Nat.le_trans (Nat.le_trans Kq127.1 Kq147.1) E165.1) (Keep.of_wr W173).1)) lb181)) all0)))
      have c336 := c52.keep S_335
      have c337 := Fd_l.keep K230 (ninS ne_a1_ nin0)
      have o338 : a1_ < b18 := Nat.lt_of_lt_of_le E_l.lt (Nat.le_trans (Keep.of_wr W11).1 lb19)
      have o339 : a1_ < b35 := Nat.lt_trans o338 o102
      have ne340 : a1_ ≠ b35 := Nat.ne_of_lt o339
      have ne341 : a1_ ≠ b18 := Nat.ne_of_lt o338
      have c342 := c50.keep S_335 (ninS ne_a1_ (ninS ne341 (ninS ne340 nin0)))
      have c343 := Vd_l.keep K230 (ninS ne_ed nin0)
      refine Go.cps (own_cf (W := 0) (b := a1_) (argsL := [(.int 2)]) (rest := []) X236 hx hZ hown (hw _ tw313) (hw _ tw223) (hw _ tw224) (hw _ tw225) (hw _ tw226) (hw _ tw227) (hw _ tw228) (hw _ tw115) (hw _ tw229) (hw _ tw47) (by decide) e236 c336 (rm30_2_3 l Z a0 hw [] a1_ ed ke q0 q1 q2 T226.heap n0 O231  c336 c337 c342 c343) rfl (by rw [hml]; rfl) (lenOf pd7 rfl) rfl (Nat.le_of_eq rfl) (hb hby d39_60) rfl (by decide)) ?_
      rintro T344 _ L344 X344 ⟨rfl, Nq344, eq344⟩
      have N344 := Fr.app N226 Nq344
      have c346 := E_q2.keep K230
      obtain ⟨T345, X345, e345, st345⟩ := castY X344 hx hZ hown (hw _ tw314) eq344 (Ins.self c346) (g := (mkF m 65 #[SR a0_, SR a1_, SI 2, SI k1] [(.ref q2)])) rfl rfl (hb hby d39_65)
      refine Go.st st345 ?_
      have c347 := Fp_q2.keep K230 (ninS ne_q2 nin0)
      have c348 := Fs_q2.keep K230 (ninS ne_q2 nin0)
      have c349 := E_r2.keep K230
      have c350 := F_r2.keep K230 (ninS ne_r2 nin0)
      have c351 := V_re2.keep K230 (ninS ne_re2 nin0)
      have c352 := E_y0.keep K230
      have c353 := E_y1.keep K230
      have c354 := E_y2.keep K230
      have c355 := Fl_y0.keep K230 (ninS ne_y0 nin0)
      have c356 := Fl_y1.keep K230 (ninS ne_y1 nin0)
      have c357 := Fl_y2.keep K230 (ninS ne_y2 nin0)
      refine Go.cps (own_cw (W := 0) (b := q2) (argsL := []) (rest := []) X345 hx hZ hown (hw _ tw316) (hw _ tw317) (hw _ tw319) (hw _ tw318) (hw _ tw320) (hw _ tw274) (by decide) e345 c346 (rm41 l Z a0 hw [] q2 r2 k2 re2 kr2 y0 y1 y2 wl l1 l2 T226.heap n0 O231  c346 c347 c348 hk0_2 hk2_2 c349 c350 c351 c352 c353 c354 c355 c356 c357) rfl (by rw [hml]; rfl) (lenOf pd21 rfl) rfl (Nat.le_of_eq rfl) (hb hby d39_68) rfl (by decide)) ?_
      rintro T358 _ L358 X358 ⟨b359, b360, rfl, Nq358, eq358, q361, q362, q363⟩
      rw [eq358] at q361 q362
      have N358 := Fr.app N344 Nq358
      refine Go.cps (own_cw (W := 0) (b := b359) (argsL := []) (rest := []) X358 hx hZ hown (hw _ tw330) (hw _ tw331) (hw _ tw333) (hw _ tw332) (hw _ tw334) (hw _ tw103) (by decide) eq358 q361 (rm43 l Z a0 hw [] b359 b360 T226.heap n0 O231  q362) rfl (by rw [hml]; rfl) (lenOf pd10 rfl) rfl (Nat.le_of_eq rfl) (hb hby d39_71) rfl (by decide)) ?_
      rintro T364 _ L364 X364 ⟨rfl, Nq364, eq364⟩
      have N364 := Fr.app N358 Nq364
      rcases q363 with ⟨hk, hl⟩ | ⟨hk, hl⟩ | ⟨hk, hl⟩
      · skip
        show Go _ _ _ _ _ _ _ (T364.setTop (mkF m 74 #[SR a0_, SR a1_, SI 2, SI k1] [(.ref b360)]))
        rw [hl]
        refine Go.cps (own_cf (W := 0) (b := wl) (argsL := []) (rest := []) X364 hx hZ hown (hw _ tw297) (hw _ tw118) (hw _ tw119) (hw _ tw345) (hw _ tw346) (hw _ tw347) (hw _ tw348) (hw _ tw326) (hw _ tw349) (hw _ tw258) (by decide) eq364 (E_wl.ext O231.2) (rm46 l Z a0 hw [] wl wle kle T226.heap n0 O231 F_wl V_wle ) rfl (by rw [hml]; rfl) (lenOf pd18 rfl) rfl (Nat.le_of_eq rfl) (hb hby d39_74) rfl (by decide)) ?_
        rintro T365 _ L365 X365 ⟨rfl, Nq365, eq365⟩
        have N365 := Fr.app N364 Nq365
        have hj := J241 _ _ X365 N365 eq365
        have e2 : T365.setTop (mkF m 79 #[SR a0_, SR a1_, SI 2, SI k1] [(.int k2)]) = T365.setTop (mkF m 79 #[SR a0_, SR a1_, SI 2, SI k1] [(.int 0)]) := by rw [hk]
        show Go _ _ _ _ _ _ _ (T365.setTop (mkF m 79 #[SR a0_, SR a1_, SI 2, SI k1] [(.int 0)]))
        exact e2 ▸ hj
      · skip
        show Go _ _ _ _ _ _ _ (T364.setTop (mkF m 74 #[SR a0_, SR a1_, SI 2, SI k1] [(.ref b360)]))
        rw [hl]
        have c366 := F1_l1.keep K230 (ninS ne_l1 nin0)
        have c368 := E_l1.keep K230
        refine Go.cps (own_cf (W := 0) (b := l1) (argsL := []) (rest := []) X364 hx hZ hown (hw _ tw297) (hw _ tw118) (hw _ tw119) (hw _ tw335) (hw _ tw336) (hw _ tw337) (hw _ tw338) (hw _ tw339) (hw _ tw340) (hw _ tw179) (by decide) eq364 c368 (rm44_1 l Z a0 hw [] l1 we T226.heap n0 O231 S_EM c366) rfl (by rw [hml]; rfl) (lenOf pd18 rfl) rfl (Nat.le_of_eq rfl) (hb hby d39_74) rfl (by decide)) ?_
        rintro T367 _ L367 X367 ⟨rfl, Nq367, eq367⟩
        have N367 := Fr.app N364 Nq367
        have hj := J241 _ _ X367 N367 eq367
        have e2 : T367.setTop (mkF m 79 #[SR a0_, SR a1_, SI 2, SI k1] [(.int k2)]) = T367.setTop (mkF m 79 #[SR a0_, SR a1_, SI 2, SI k1] [(.int 1)]) := by rw [hk]
        show Go _ _ _ _ _ _ _ (T367.setTop (mkF m 79 #[SR a0_, SR a1_, SI 2, SI k1] [(.int 1)]))
        exact e2 ▸ hj
      · skip
        show Go _ _ _ _ _ _ _ (T364.setTop (mkF m 74 #[SR a0_, SR a1_, SI 2, SI k1] [(.ref b360)]))
        rw [hl]
        have c369 := F1_l2.keep K230 (ninS ne_l2 nin0)
        have c371 := E_l2.keep K230
        refine Go.cps (own_cf (W := 0) (b := l2) (argsL := []) (rest := []) X364 hx hZ hown (hw _ tw297) (hw _ tw118) (hw _ tw119) (hw _ tw335) (hw _ tw336) (hw _ tw337) (hw _ tw338) (hw _ tw339) (hw _ tw340) (hw _ tw179) (by decide) eq364 c371 (rm44_2 l Z a0 hw [] l2 we xl T226.heap n0 O231 S_EM c369 nex) rfl (by rw [hml]; rfl) (lenOf pd18 rfl) rfl (Nat.le_of_eq rfl) (hb hby d39_74) rfl (by decide)) ?_
        rintro T370 _ L370 X370 ⟨rfl, Nq370, eq370⟩
        have N370 := Fr.app N364 Nq370
        have hj := J241 _ _ X370 N370 eq370
        have e2 : T370.setTop (mkF m 79 #[SR a0_, SR a1_, SI 2, SI k1] [(.int k2)]) = T370.setTop (mkF m 79 #[SR a0_, SR a1_, SI 2, SI k1] [(.int 2)]) := by rw [hk]
        show Go _ _ _ _ _ _ _ (T370.setTop (mkF m 79 #[SR a0_, SR a1_, SI 2, SI k1] [(.int 2)]))
        exact e2 ▸ hj
    refine Go.st (t' := T157.setTop (mkF m 60 #[SR a0_, SR a1_, SI 1, SI k0] [(.int 1), (.ref a1_)])) (fun target kt => ?_) ?_
    · refine XS.aloadN X157.here hx rfl (hb hby d39_58) rfl rfl ?_
      refine XS.iloadN X157.here hx rfl (hb hby d39_59) rfl ?_
      exact kt
    have S_372 := ((((((Keep.refl h45 [a0_, b18, b35]).ext E53).wr W63 (Or.inl mI0)).ext E79).wr W87 (Or.inl mI1)).ext E94).wr W107 (Or.inl mI2)
    have S_373 : Keep h45 T147.heap [a0_, b18, b35] := (S_372.trans S_153 (allS (Or.inr (Nat.le_trans (Nat.le_trans E53.1 (Keep.of_wr W63).1) lb80)) (allS (Or.inr (Nat.le_trans (Nat.le_trans (Nat.le_trans (Nat.le_trans E53.1 (Keep.of_wr W63).1) E79.1) (Keep.of_wr W87).1) lb95)) all0)))
    have c374 := c52.keep S_373
    have c375 := Fd_l.keep K151 (ninS ne_a1_ nin0)
    have o376 : a1_ < b18 := Nat.lt_of_lt_of_le E_l.lt (Nat.le_trans (Keep.of_wr W11).1 lb19)
    have o377 : a1_ < b35 := Nat.lt_trans o376 o102
    have ne378 : a1_ ≠ b35 := Nat.ne_of_lt o377
    have ne379 : a1_ ≠ b18 := Nat.ne_of_lt o376
    have c380 := c50.keep S_373 (ninS ne_a1_ (ninS ne379 (ninS ne378 nin0)))
    have c381 := Vd_l.keep K151 (ninS ne_ed nin0)
    refine Go.cps (own_cf (W := 0) (b := a1_) (argsL := [(.int 1)]) (rest := []) X157 hx hZ hown (hw _ tw313) (hw _ tw223) (hw _ tw224) (hw _ tw225) (hw _ tw226) (hw _ tw227) (hw _ tw228) (hw _ tw115) (hw _ tw229) (hw _ tw47) (by decide) e157 c374 (rm30_1_3 l Z a0 hw [] a1_ ed ke q0 q1 q2 T147.heap n0 O152  c374 c375 c380 c381) rfl (by rw [hml]; rfl) (lenOf pd7 rfl) rfl (Nat.le_of_eq rfl) (hb hby d39_60) rfl (by decide)) ?_
    rintro T382 _ L382 X382 ⟨rfl, Nq382, eq382⟩
    have N382 := Fr.app N147 Nq382
    have c384 := E_q1.keep K151
    obtain ⟨T383, X383, e383, st383⟩ := castY X382 hx hZ hown (hw _ tw314) eq382 (Ins.self c384) (g := (mkF m 65 #[SR a0_, SR a1_, SI 1, SI k0] [(.ref q1)])) rfl rfl (hb hby d39_65)
    refine Go.st st383 ?_
    have c385 := Fp_q1.keep K151 (ninS ne_q1 nin0)
    have c386 := Fs_q1.keep K151 (ninS ne_q1 nin0)
    have c387 := E_r1.keep K151
    have c388 := F_r1.keep K151 (ninS ne_r1 nin0)
    have c389 := V_re1.keep K151 (ninS ne_re1 nin0)
    have c390 := E_y0.keep K151
    have c391 := E_y1.keep K151
    have c392 := E_y2.keep K151
    have c393 := Fl_y0.keep K151 (ninS ne_y0 nin0)
    have c394 := Fl_y1.keep K151 (ninS ne_y1 nin0)
    have c395 := Fl_y2.keep K151 (ninS ne_y2 nin0)
    refine Go.cps (own_cw (W := 0) (b := q1) (argsL := []) (rest := []) X383 hx hZ hown (hw _ tw316) (hw _ tw317) (hw _ tw319) (hw _ tw318) (hw _ tw320) (hw _ tw274) (by decide) e383 c384 (rm41 l Z a0 hw [] q1 r1 k1 re1 kr1 y0 y1 y2 wl l1 l2 T147.heap n0 O152  c384 c385 c386 hk0_1 hk2_1 c387 c388 c389 c390 c391 c392 c393 c394 c395) rfl (by rw [hml]; rfl) (lenOf pd21 rfl) rfl (Nat.le_of_eq rfl) (hb hby d39_68) rfl (by decide)) ?_
    rintro T396 _ L396 X396 ⟨b397, b398, rfl, Nq396, eq396, q399, q400, q401⟩
    rw [eq396] at q399 q400
    have N396 := Fr.app N382 Nq396
    refine Go.cps (own_cw (W := 0) (b := b397) (argsL := []) (rest := []) X396 hx hZ hown (hw _ tw330) (hw _ tw331) (hw _ tw333) (hw _ tw332) (hw _ tw334) (hw _ tw103) (by decide) eq396 q399 (rm43 l Z a0 hw [] b397 b398 T147.heap n0 O152  q400) rfl (by rw [hml]; rfl) (lenOf pd10 rfl) rfl (Nat.le_of_eq rfl) (hb hby d39_71) rfl (by decide)) ?_
    rintro T402 _ L402 X402 ⟨rfl, Nq402, eq402⟩
    have N402 := Fr.app N396 Nq402
    rcases q401 with ⟨hk, hl⟩ | ⟨hk, hl⟩ | ⟨hk, hl⟩
    · skip
      show Go _ _ _ _ _ _ _ (T402.setTop (mkF m 74 #[SR a0_, SR a1_, SI 1, SI k0] [(.ref b398)]))
      rw [hl]
      refine Go.cps (own_cf (W := 0) (b := wl) (argsL := []) (rest := []) X402 hx hZ hown (hw _ tw297) (hw _ tw118) (hw _ tw119) (hw _ tw345) (hw _ tw346) (hw _ tw347) (hw _ tw348) (hw _ tw326) (hw _ tw349) (hw _ tw258) (by decide) eq402 (E_wl.ext O152.2) (rm46 l Z a0 hw [] wl wle kle T147.heap n0 O152 F_wl V_wle ) rfl (by rw [hml]; rfl) (lenOf pd18 rfl) rfl (Nat.le_of_eq rfl) (hb hby d39_74) rfl (by decide)) ?_
      rintro T403 _ L403 X403 ⟨rfl, Nq403, eq403⟩
      have N403 := Fr.app N402 Nq403
      have hj := J162 _ _ X403 N403 eq403
      have e2 : T403.setTop (mkF m 79 #[SR a0_, SR a1_, SI 1, SI k0] [(.int k1)]) = T403.setTop (mkF m 79 #[SR a0_, SR a1_, SI 1, SI k0] [(.int 0)]) := by rw [hk]
      show Go _ _ _ _ _ _ _ (T403.setTop (mkF m 79 #[SR a0_, SR a1_, SI 1, SI k0] [(.int 0)]))
      exact e2 ▸ hj
    · skip
      show Go _ _ _ _ _ _ _ (T402.setTop (mkF m 74 #[SR a0_, SR a1_, SI 1, SI k0] [(.ref b398)]))
      rw [hl]
      have c404 := F1_l1.keep K151 (ninS ne_l1 nin0)
      have c406 := E_l1.keep K151
      refine Go.cps (own_cf (W := 0) (b := l1) (argsL := []) (rest := []) X402 hx hZ hown (hw _ tw297) (hw _ tw118) (hw _ tw119) (hw _ tw335) (hw _ tw336) (hw _ tw337) (hw _ tw338) (hw _ tw339) (hw _ tw340) (hw _ tw179) (by decide) eq402 c406 (rm44_1 l Z a0 hw [] l1 we T147.heap n0 O152 S_EM c404) rfl (by rw [hml]; rfl) (lenOf pd18 rfl) rfl (Nat.le_of_eq rfl) (hb hby d39_74) rfl (by decide)) ?_
      rintro T405 _ L405 X405 ⟨rfl, Nq405, eq405⟩
      have N405 := Fr.app N402 Nq405
      have hj := J162 _ _ X405 N405 eq405
      have e2 : T405.setTop (mkF m 79 #[SR a0_, SR a1_, SI 1, SI k0] [(.int k1)]) = T405.setTop (mkF m 79 #[SR a0_, SR a1_, SI 1, SI k0] [(.int 1)]) := by rw [hk]
      show Go _ _ _ _ _ _ _ (T405.setTop (mkF m 79 #[SR a0_, SR a1_, SI 1, SI k0] [(.int 1)]))
      exact e2 ▸ hj
    · skip
      show Go _ _ _ _ _ _ _ (T402.setTop (mkF m 74 #[SR a0_, SR a1_, SI 1, SI k0] [(.ref b398)]))
      rw [hl]
      have c407 := F1_l2.keep K151 (ninS ne_l2 nin0)
      have c409 := E_l2.keep K151
      refine Go.cps (own_cf (W := 0) (b := l2) (argsL := []) (rest := []) X402 hx hZ hown (hw _ tw297) (hw _ tw118) (hw _ tw119) (hw _ tw335) (hw _ tw336) (hw _ tw337) (hw _ tw338) (hw _ tw339) (hw _ tw340) (hw _ tw179) (by decide) eq402 c409 (rm44_2 l Z a0 hw [] l2 we xl T147.heap n0 O152 S_EM c407 nex) rfl (by rw [hml]; rfl) (lenOf pd18 rfl) rfl (Nat.le_of_eq rfl) (hb hby d39_74) rfl (by decide)) ?_
      rintro T408 _ L408 X408 ⟨rfl, Nq408, eq408⟩
      have N408 := Fr.app N402 Nq408
      have hj := J162 _ _ X408 N408 eq408
      have e2 : T408.setTop (mkF m 79 #[SR a0_, SR a1_, SI 1, SI k0] [(.int k1)]) = T408.setTop (mkF m 79 #[SR a0_, SR a1_, SI 1, SI k0] [(.int 2)]) := by rw [hk]
      show Go _ _ _ _ _ _ _ (T408.setTop (mkF m 79 #[SR a0_, SR a1_, SI 1, SI k0] [(.int 2)]))
      exact e2 ▸ hj
  refine Go.st (t' := T69.setTop (mkF m 60 #[SR a0_, SR a1_, SI 0, .unset] [(.int 0), (.ref a1_)])) (fun target kt => ?_) ?_
  · refine XS.aloadN X69.here hx rfl (hb hby d39_58) rfl rfl ?_
    refine XS.iloadN X69.here hx rfl (hb hby d39_59) rfl ?_
    exact kt
  have S_410 : Keep h45 h63 [a0_] := (((Keep.refl h45 [a0_]).ext E53).wr W63 (Or.inl mI0))
  have c411 := c52.keep S_410
  have c412 := Fd_l.keep K65 (ninS ne_a1_ nin0)
  have c413 := c50.keep S_410 (ninS ne_a1_ nin0)
  have c414 := Vd_l.keep K65 (ninS ne_ed nin0)
  refine Go.cps (own_cf (W := 0) (b := a1_) (argsL := [(.int 0)]) (rest := []) X69 hx hZ hown (hw _ tw313) (hw _ tw223) (hw _ tw224) (hw _ tw225) (hw _ tw226) (hw _ tw227) (hw _ tw228) (hw _ tw115) (hw _ tw229) (hw _ tw47) (by decide) e69 c411 (rm30_0_3 l Z a0 hw [] a1_ ed ke q0 q1 q2 h63 n0 O66  c411 c412 c413 c414) rfl (by rw [hml]; rfl) (lenOf pd7 rfl) rfl (Nat.le_of_eq rfl) (hb hby d39_60) rfl (by decide)) ?_
  rintro T415 _ L415 X415 ⟨rfl, Nq415, eq415⟩
  have N415 := Fr.app N63 Nq415
  have c417 := E_q0.keep K65
  obtain ⟨T416, X416, e416, st416⟩ := castY X415 hx hZ hown (hw _ tw314) eq415 (Ins.self c417) (g := (mkF m 65 #[SR a0_, SR a1_, SI 0, .unset] [(.ref q0)])) rfl rfl (hb hby d39_65)
  refine Go.st st416 ?_
  have c418 := Fp_q0.keep K65 (ninS ne_q0 nin0)
  have c419 := Fs_q0.keep K65 (ninS ne_q0 nin0)
  have c420 := E_r0.keep K65
  have c421 := F_r0.keep K65 (ninS ne_r0 nin0)
  have c422 := V_re0.keep K65 (ninS ne_re0 nin0)
  have c423 := E_y0.keep K65
  have c424 := E_y1.keep K65
  have c425 := E_y2.keep K65
  have c426 := Fl_y0.keep K65 (ninS ne_y0 nin0)
  have c427 := Fl_y1.keep K65 (ninS ne_y1 nin0)
  have c428 := Fl_y2.keep K65 (ninS ne_y2 nin0)
  refine Go.cps (own_cw (W := 0) (b := q0) (argsL := []) (rest := []) X416 hx hZ hown (hw _ tw316) (hw _ tw317) (hw _ tw319) (hw _ tw318) (hw _ tw320) (hw _ tw274) (by decide) e416 c417 (rm41 l Z a0 hw [] q0 r0 k0 re0 kr0 y0 y1 y2 wl l1 l2 h63 n0 O66  c417 c418 c419 hk0_0 hk2_0 c420 c421 c422 c423 c424 c425 c426 c427 c428) rfl (by rw [hml]; rfl) (lenOf pd21 rfl) rfl (Nat.le_of_eq rfl) (hb hby d39_68) rfl (by decide)) ?_
  rintro T429 _ L429 X429 ⟨b430, b431, rfl, Nq429, eq429, q432, q433, q434⟩
  rw [eq429] at q432 q433
  have N429 := Fr.app N415 Nq429
  refine Go.cps (own_cw (W := 0) (b := b430) (argsL := []) (rest := []) X429 hx hZ hown (hw _ tw330) (hw _ tw331) (hw _ tw333) (hw _ tw332) (hw _ tw334) (hw _ tw103) (by decide) eq429 q432 (rm43 l Z a0 hw [] b430 b431 h63 n0 O66  q433) rfl (by rw [hml]; rfl) (lenOf pd10 rfl) rfl (Nat.le_of_eq rfl) (hb hby d39_71) rfl (by decide)) ?_
  rintro T435 _ L435 X435 ⟨rfl, Nq435, eq435⟩
  have N435 := Fr.app N429 Nq435
  rcases q434 with ⟨hk, hl⟩ | ⟨hk, hl⟩ | ⟨hk, hl⟩
  · skip
    show Go _ _ _ _ _ _ _ (T435.setTop (mkF m 74 #[SR a0_, SR a1_, SI 0, .unset] [(.ref b431)]))
    rw [hl]
    refine Go.cps (own_cf (W := 0) (b := wl) (argsL := []) (rest := []) X435 hx hZ hown (hw _ tw297) (hw _ tw118) (hw _ tw119) (hw _ tw345) (hw _ tw346) (hw _ tw347) (hw _ tw348) (hw _ tw326) (hw _ tw349) (hw _ tw258) (by decide) eq435 (E_wl.ext O66.2) (rm46 l Z a0 hw [] wl wle kle h63 n0 O66 F_wl V_wle ) rfl (by rw [hml]; rfl) (lenOf pd18 rfl) rfl (Nat.le_of_eq rfl) (hb hby d39_74) rfl (by decide)) ?_
    rintro T436 _ L436 X436 ⟨rfl, Nq436, eq436⟩
    have N436 := Fr.app N435 Nq436
    have hj := J76 _ _ X436 N436 eq436
    have e2 : T436.setTop (mkF m 79 #[SR a0_, SR a1_, SI 0, .unset] [(.int k0)]) = T436.setTop (mkF m 79 #[SR a0_, SR a1_, SI 0, .unset] [(.int 0)]) := by rw [hk]
    show Go _ _ _ _ _ _ _ (T436.setTop (mkF m 79 #[SR a0_, SR a1_, SI 0, .unset] [(.int 0)]))
    exact e2 ▸ hj
  · skip
    show Go _ _ _ _ _ _ _ (T435.setTop (mkF m 74 #[SR a0_, SR a1_, SI 0, .unset] [(.ref b431)]))
    rw [hl]
    have c437 := F1_l1.keep K65 (ninS ne_l1 nin0)
    have c439 := E_l1.keep K65
    refine Go.cps (own_cf (W := 0) (b := l1) (argsL := []) (rest := []) X435 hx hZ hown (hw _ tw297) (hw _ tw118) (hw _ tw119) (hw _ tw335) (hw _ tw336) (hw _ tw337) (hw _ tw338) (hw _ tw339) (hw _ tw340) (hw _ tw179) (by decide) eq435 c439 (rm44_1 l Z a0 hw [] l1 we h63 n0 O66 S_EM c437) rfl (by rw [hml]; rfl) (lenOf pd18 rfl) rfl (Nat.le_of_eq rfl) (hb hby d39_74) rfl (by decide)) ?_
    rintro T438 _ L438 X438 ⟨rfl, Nq438, eq438⟩
    have N438 := Fr.app N435 Nq438
    have hj := J76 _ _ X438 N438 eq438
    have e2 : T438.setTop (mkF m 79 #[SR a0_, SR a1_, SI 0, .unset] [(.int k0)]) = T438.setTop (mkF m 79 #[SR a0_, SR a1_, SI 0, .unset] [(.int 1)]) := by rw [hk]
    show Go _ _ _ _ _ _ _ (T438.setTop (mkF m 79 #[SR a0_, SR a1_, SI 0, .unset] [(.int 1)]))
    exact e2 ▸ hj
  · skip
    show Go _ _ _ _ _ _ _ (T435.setTop (mkF m 74 #[SR a0_, SR a1_, SI 0, .unset] [(.ref b431)]))
    rw [hl]
    have c440 := F1_l2.keep K65 (ninS ne_l2 nin0)
    have c442 := E_l2.keep K65
    refine Go.cps (own_cf (W := 0) (b := l2) (argsL := []) (rest := []) X435 hx hZ hown (hw _ tw297) (hw _ tw118) (hw _ tw119) (hw _ tw335) (hw _ tw336) (hw _ tw337) (hw _ tw338) (hw _ tw339) (hw _ tw340) (hw _ tw179) (by decide) eq435 c442 (rm44_2 l Z a0 hw [] l2 we xl h63 n0 O66 S_EM c440 nex) rfl (by rw [hml]; rfl) (lenOf pd18 rfl) rfl (Nat.le_of_eq rfl) (hb hby d39_74) rfl (by decide)) ?_
    rintro T441 _ L441 X441 ⟨rfl, Nq441, eq441⟩
    have N441 := Fr.app N435 Nq441
    have hj := J76 _ _ X441 N441 eq441
    have e2 : T441.setTop (mkF m 79 #[SR a0_, SR a1_, SI 0, .unset] [(.int k0)]) = T441.setTop (mkF m 79 #[SR a0_, SR a1_, SI 0, .unset] [(.int 2)]) := by rw [hk]
    show Go _ _ _ _ _ _ _ (T441.setTop (mkF m 79 #[SR a0_, SR a1_, SI 0, .unset] [(.int 2)]))
    exact e2 ▸ hj
theorem d40_0 : decode zc3 0 = .ok (.iconst 0, 1) := by decide +kernel
theorem d40_1 : decode zc3 1 = .ok (.istore_n 1, 1) := by decide +kernel
theorem d40_2 : decode zc3 2 = .ok (.aload_n 0, 1) := by decide +kernel
theorem d40_3 : decode zc3 3 = .ok (.getfield 21, 3) := by decide +kernel
theorem d40_6 : decode zc3 6 = .ok (.astore_n 2, 1) := by decide +kernel
theorem d40_7 : decode zc3 7 = .ok (.aload_n 2, 1) := by decide +kernel
theorem d40_8 : decode zc3 8 = .ok (.arraylength, 1) := by decide +kernel
theorem d40_9 : decode zc3 9 = .ok (.istore_n 3, 1) := by decide +kernel
theorem d40_10 : decode zc3 10 = .ok (.iconst 0, 1) := by decide +kernel
theorem d40_11 : decode zc3 11 = .ok (.istore 4, 2) := by decide +kernel
theorem d40_13 : decode zc3 13 = .ok (.iload 4, 2) := by decide +kernel
theorem d40_15 : decode zc3 15 = .ok (.iload_n 3, 1) := by decide +kernel
theorem d40_16 : decode zc3 16 = .ok (.if_icmp .ge 24, 3) := by decide +kernel
theorem d40_40 : decode zc3 40 = .ok (.iload_n 1, 1) := by decide +kernel
theorem d40_41 : decode zc3 41 = .ok (.ireturn, 1) := by decide +kernel
theorem ef40_0 (m : MethodId) (x0 : Addr) : entryFrame m #[(.ref x0)] 6 = mkF m 0 #[SR x0, .unset, .unset, .unset, .unset, .unset] [] := by first | (simp [entryFrame, mkF, argsToLocals, Value.category]; done) | rfl
def Q40_0 (Z : State) (a0_ : Addr) (dp : Addr) (kd_ : ClassId) (h0 : Heap) (n0 : Nat) (v : Option Value) (h : Heap) (L : List Loc) : Prop := v = some (.int 0) ∧ Fr n0 L ∧ h = h0
theorem rm40_0 (l : Launch) (Z : State) (a0 : Array Value) (hw : ∀ d ∈ tables_1, d.before a0 Z = true) (ws : List Jvm.Cond) (a0_ : Addr) (dp : Addr) (kd_ : ClassId) (h0 : Heap) (n0 : Nat) (O0 : Old Z n0 h0) (F_d : Fld Z h0 a0_ sq5 "departures" "[[I" (.ref dp)) (V_d : Arv Z h0 dp kd_ (.array .int) (0 : Int32) [] .null) :
    Met l Z ws mm7 prog_32_method_6_code 6 (some .int) (Rm 0 0 0 0) #[(.ref a0_)] h0 (Q40_0 Z a0_ dp kd_ h0 n0) := by
  refine Met.enter (L0 := #[SR a0_, .unset, .unset, .unset, .unset, .unset]) (plainFor_of_name pn444) (fun m => ef40_0 m a0_) ?_
  intro p e s m below meth c s₁ hx hby hml hown hnm hret hlk hZ X0 e0
  have N0 := Fr.nil n0
  have Z0 := own_z0 O0
  have K0 : Keep h0 h0 [] := Keep.refl h0 _
  refine Go.st (t' := s₁.setTop (mkF m 3 #[SR a0_, SI 0, .unset, .unset, .unset, .unset] [(.ref a0_)])) (fun target kt => ?_) ?_
  · refine XS.iconst X0.here hx rfl (hb hby d40_0) ?_
    refine XS.istoreN X0.here hx rfl (hb hby d40_1) rfl (l' := #[SR a0_, SI 0, .unset, .unset, .unset, .unset]) rfl ?_
    refine XS.aloadN X0.here hx rfl (hb hby d40_2) rfl rfl ?_
    exact kt
  obtain ⟨T10, X10, e10, st10⟩ := getF X0 hx hZ hown (host := "") (Or.inl (hw _ tw300)) Via.refl e0 F_d (g := (mkF m 3 #[SR a0_, SI 0, .unset, .unset, .unset, .unset] [(.ref a0_)])) rfl rfl (hb hby d40_3)
  refine Go.st st10 ?_
  obtain ⟨cl11, Ar11, -, S11, M11, -, -⟩ := id V_d
  refine Go.st (t' := T10.setTop (mkF m 41 #[SR a0_, SI 0, SR dp, SI 0, SI 0, .unset] [(.int 0)])) (fun target kt => ?_) ?_
  · refine XS.astoreN X10.here hx rfl (hb hby d40_6) rfl rfl (l' := #[SR a0_, SI 0, SR dp, .unset, .unset, .unset]) rfl ?_
    refine XS.aloadN X10.here hx rfl (hb hby d40_7) rfl rfl ?_
    refine X10.arraylength hx (by rw [e10]; exact Ar11.1) (State.isArrayOf_alike hZ.alike Ar11.2.1) (g := (mkF m 8 #[SR a0_, SI 0, SR dp, .unset, .unset, .unset] [(.ref dp)])) rfl rfl (hb hby d40_8) _ ?_
    rw [len_of S11 M11]
    refine XS.istoreN X10.here hx rfl (hb hby d40_9) rfl (l' := #[SR a0_, SI 0, SR dp, SI 0, .unset, .unset]) rfl ?_
    refine XS.iconst X10.here hx rfl (hb hby d40_10) ?_
    refine XS.istore X10.here hx rfl (hb hby d40_11) rfl (l' := #[SR a0_, SI 0, SR dp, SI 0, SI 0, .unset]) rfl ?_
    refine XS.iload X10.here hx rfl (hb hby d40_13) rfl ?_
    refine XS.iloadN X10.here hx rfl (hb hby d40_15) rfl ?_
    refine XS.icmpYes X10.here hx rfl (pc0 := 16) (pc' := 40) rfl (hb hby d40_16) rfl (flt (by decide : ¬ ((0 : Int32) < (0 : Int32)))).2.1 (by decide) (by decide) ?_
    refine XS.iloadN X10.here hx rfl (hb hby d40_40) rfl ?_
    exact kt
  refine Go.ret X10 (v := some (.int 0)) (fun h => by rw [hret] at h; cases h) hlk (fun fs hr => retI X10 hx hret (hb hby d40_41) hr) ?_ (by decide) (by decide)
  show Q40_0 Z a0_ dp kd_ h0 n0 _ T10.heap _
  rw [e10]
  exact ⟨rfl, N0, rfl⟩
theorem d40_19 : decode zc3 19 = .ok (.aload_n 2, 1) := by decide +kernel
theorem d40_20 : decode zc3 20 = .ok (.iload 4, 2) := by decide +kernel
theorem d40_22 : decode zc3 22 = .ok (.aaload, 1) := by decide +kernel
theorem d40_23 : decode zc3 23 = .ok (.astore 5, 2) := by decide +kernel
theorem d40_25 : decode zc3 25 = .ok (.aload 5, 2) := by decide +kernel
theorem d40_27 : decode zc3 27 = .ok (.arraylength, 1) := by decide +kernel
theorem d40_28 : decode zc3 28 = .ok (.ifCond .le 6, 3) := by decide +kernel
theorem d40_31 : decode zc3 31 = .ok (.iinc 1 1, 3) := by decide +kernel
theorem d40_34 : decode zc3 34 = .ok (.iinc 4 1, 3) := by decide +kernel
theorem d40_37 : decode zc3 37 = .ok (.goto (-24), 3) := by decide +kernel
def Q40_1 (Z : State) (a0_ : Addr) (dp : Addr) (kd_ : ClassId) (d0 : Addr) (c0 : Cell) (k0 : Int32) (h0 : Heap) (n0 : Nat) (v : Option Value) (h : Heap) (L : List Loc) : Prop := v = some (.int (own_t1 k0)) ∧ Fr n0 L ∧ h = h0
theorem rm40_1 (l : Launch) (Z : State) (a0 : Array Value) (hw : ∀ d ∈ tables_1, d.before a0 Z = true) (ws : List Jvm.Cond) (a0_ : Addr) (dp : Addr) (kd_ : ClassId) (d0 : Addr) (c0 : Cell) (k0 : Int32) (h0 : Heap) (n0 : Nat) (O0 : Old Z n0 h0) (F_d : Fld Z h0 a0_ sq5 "departures" "[[I" (.ref dp)) (V_d : Arv Z h0 dp kd_ (.array .int) (1 : Int32) [(.ref d0)] .null) (A0 : Arr Z h0 d0 c0 .int) (S0 : c0.slots.size = k0.toNatClampNeg) (hk0_0 : ¬ k0 < 0) :
    Met l Z ws mm7 prog_32_method_6_code 6 (some .int) (Rm 0 0 0 0) #[(.ref a0_)] h0 (Q40_1 Z a0_ dp kd_ d0 c0 k0 h0 n0) := by
  refine Met.enter (L0 := #[SR a0_, .unset, .unset, .unset, .unset, .unset]) (plainFor_of_name pn444) (fun m => ef40_0 m a0_) ?_
  intro p e s m below meth c s₁ hx hby hml hown hnm hret hlk hZ X0 e0
  have N0 := Fr.nil n0
  have Z0 := own_z0 O0
  have K0 : Keep h0 h0 [] := Keep.refl h0 _
  refine Go.st (t' := s₁.setTop (mkF m 3 #[SR a0_, SI 0, .unset, .unset, .unset, .unset] [(.ref a0_)])) (fun target kt => ?_) ?_
  · refine XS.iconst X0.here hx rfl (hb hby d40_0) ?_
    refine XS.istoreN X0.here hx rfl (hb hby d40_1) rfl (l' := #[SR a0_, SI 0, .unset, .unset, .unset, .unset]) rfl ?_
    refine XS.aloadN X0.here hx rfl (hb hby d40_2) rfl rfl ?_
    exact kt
  obtain ⟨T10, X10, e10, st10⟩ := getF X0 hx hZ hown (host := "") (Or.inl (hw _ tw300)) Via.refl e0 F_d (g := (mkF m 3 #[SR a0_, SI 0, .unset, .unset, .unset, .unset] [(.ref a0_)])) rfl rfl (hb hby d40_3)
  refine Go.st st10 ?_
  obtain ⟨cl11, Ar11, -, S11, M11, -, -⟩ := id V_d
  obtain ⟨cl12, Ar12, -, S12, M12, H12, -⟩ := id V_d
  have hin12 : ¬ ((0 : Int32) < 0 ∨ cl12.slots.size ≤ ((0 : Int32)).toNatClampNeg) := inb_of S12 ⟨by decide, by decide⟩
  have hat12 : cl12.slots[((0 : Int32)).toNatClampNeg]? = some (.ref d0) := H12.at hin12 rfl
  refine Go.st (t' := T10.setTop (mkF m 28 #[SR a0_, SI 0, SR dp, SI 1, SI 0, SR d0] [(.int k0)])) (fun target kt => ?_) ?_
  · refine XS.astoreN X10.here hx rfl (hb hby d40_6) rfl rfl (l' := #[SR a0_, SI 0, SR dp, .unset, .unset, .unset]) rfl ?_
    refine XS.aloadN X10.here hx rfl (hb hby d40_7) rfl rfl ?_
    refine X10.arraylength hx (by rw [e10]; exact Ar11.1) (State.isArrayOf_alike hZ.alike Ar11.2.1) (g := (mkF m 8 #[SR a0_, SI 0, SR dp, .unset, .unset, .unset] [(.ref dp)])) rfl rfl (hb hby d40_8) _ ?_
    rw [len_of S11 M11]
    refine XS.istoreN X10.here hx rfl (hb hby d40_9) rfl (l' := #[SR a0_, SI 0, SR dp, SI 1, .unset, .unset]) rfl ?_
    refine XS.iconst X10.here hx rfl (hb hby d40_10) ?_
    refine XS.istore X10.here hx rfl (hb hby d40_11) rfl (l' := #[SR a0_, SI 0, SR dp, SI 1, SI 0, .unset]) rfl ?_
    refine XS.iload X10.here hx rfl (hb hby d40_13) rfl ?_
    refine XS.iloadN X10.here hx rfl (hb hby d40_15) rfl ?_
    refine XS.icmpNo X10.here hx rfl (hb hby d40_16) rfl (tlt (by decide : (0 : Int32) < (1 : Int32))).2.1 ?_
    refine XS.aloadN X10.here hx rfl (hb hby d40_19) rfl rfl ?_
    refine XS.iload X10.here hx rfl (hb hby d40_20) rfl ?_
    refine X10.aaload hx (j := (0 : Int32)) (v := (.ref d0)) (by rw [e10]; exact Ar12.1) (State.isArrayOf_alike hZ.alike Ar12.2.1) rfl Ar12.2.2 hin12 hat12 (g := (mkF m 22 #[SR a0_, SI 0, SR dp, SI 1, SI 0, .unset] [(.int 0), (.ref dp)])) rfl rfl (hb hby d40_22) _ ?_
    refine XS.astore X10.here hx rfl (hb hby d40_23) rfl rfl (l' := #[SR a0_, SI 0, SR dp, SI 1, SI 0, SR d0]) rfl ?_
    refine XS.aload X10.here hx rfl (hb hby d40_25) rfl rfl ?_
    refine X10.arraylength hx (by rw [e10]; exact A0.1) (State.isArrayOf_alike hZ.alike A0.2.1) (g := (mkF m 27 #[SR a0_, SI 0, SR dp, SI 1, SI 0, SR d0] [(.ref d0)])) rfl rfl (hb hby d40_27) _ ?_
    rw [len_of S0 hk0_0]
    exact kt
  rcases Classical.em ((0 : Int32) < k0) with hc14 | hc14
  · refine Go.st (t' := T10.setTop (mkF m 41 #[SR a0_, SI 1, SR dp, SI 1, SI 1, SR d0] [(.int 1)])) (fun target kt => ?_) ?_
    · refine XS.ifNo X10.here hx rfl (hb hby d40_28) rfl ((if0 _ _).trans (tlt hc14).2.2.2) ?_
      refine XS.iinc X10.here hx rfl (hb hby d40_31) rfl (l' := #[SR a0_, SI 1, SR dp, SI 1, SI 0, SR d0]) rfl ?_
      refine XS.iinc X10.here hx rfl (hb hby d40_34) rfl (l' := #[SR a0_, SI 1, SR dp, SI 1, SI 1, SR d0]) rfl ?_
      refine XS.goto X10.here hx rfl (pc0 := 37) (pc' := 13) rfl (hb hby d40_37) (by decide) (by decide) ?_
      refine XS.iload X10.here hx rfl (hb hby d40_13) rfl ?_
      refine XS.iloadN X10.here hx rfl (hb hby d40_15) rfl ?_
      refine XS.icmpYes X10.here hx rfl (pc0 := 16) (pc' := 40) rfl (hb hby d40_16) rfl (flt (by decide : ¬ ((1 : Int32) < (1 : Int32)))).2.1 (by decide) (by decide) ?_
      refine XS.iloadN X10.here hx rfl (hb hby d40_40) rfl ?_
      exact kt
    refine Go.ret X10 (v := some (.int 1)) (fun h => by rw [hret] at h; cases h) hlk (fun fs hr => retI X10 hx hret (hb hby d40_41) hr) ?_ (by decide) (by decide)
    show Q40_1 Z a0_ dp kd_ d0 c0 k0 h0 n0 _ T10.heap _
    rw [e10]
    exact ⟨(by simp [own_t1, own_pos hc14]), N0, rfl⟩
  · refine Go.st (t' := T10.setTop (mkF m 41 #[SR a0_, SI 0, SR dp, SI 1, SI 1, SR d0] [(.int 0)])) (fun target kt => ?_) ?_
    · refine XS.ifYes X10.here hx rfl (pc0 := 28) (pc' := 34) rfl (hb hby d40_28) rfl ((if0 _ _).trans (flt hc14).2.2.2) (by decide) (by decide) ?_
      refine XS.iinc X10.here hx rfl (hb hby d40_34) rfl (l' := #[SR a0_, SI 0, SR dp, SI 1, SI 1, SR d0]) rfl ?_
      refine XS.goto X10.here hx rfl (pc0 := 37) (pc' := 13) rfl (hb hby d40_37) (by decide) (by decide) ?_
      refine XS.iload X10.here hx rfl (hb hby d40_13) rfl ?_
      refine XS.iloadN X10.here hx rfl (hb hby d40_15) rfl ?_
      refine XS.icmpYes X10.here hx rfl (pc0 := 16) (pc' := 40) rfl (hb hby d40_16) rfl (flt (by decide : ¬ ((1 : Int32) < (1 : Int32)))).2.1 (by decide) (by decide) ?_
      refine XS.iloadN X10.here hx rfl (hb hby d40_40) rfl ?_
      exact kt
    refine Go.ret X10 (v := some (.int 0)) (fun h => by rw [hret] at h; cases h) hlk (fun fs hr => retI X10 hx hret (hb hby d40_41) hr) ?_ (by decide) (by decide)
    show Q40_1 Z a0_ dp kd_ d0 c0 k0 h0 n0 _ T10.heap _
    rw [e10]
    exact ⟨(by simp [own_t1, own_npos hc14 hk0_0]), N0, rfl⟩
def Q40_2 (Z : State) (a0_ : Addr) (dp : Addr) (kd_ : ClassId) (d0 : Addr) (c0 : Cell) (k0 : Int32) (d1 : Addr) (c1 : Cell) (k1 : Int32) (h0 : Heap) (n0 : Nat) (v : Option Value) (h : Heap) (L : List Loc) : Prop := v = some (.int (own_t2 k0 k1)) ∧ Fr n0 L ∧ h = h0
theorem rm40_2 (l : Launch) (Z : State) (a0 : Array Value) (hw : ∀ d ∈ tables_1, d.before a0 Z = true) (ws : List Jvm.Cond) (a0_ : Addr) (dp : Addr) (kd_ : ClassId) (d0 : Addr) (c0 : Cell) (k0 : Int32) (d1 : Addr) (c1 : Cell) (k1 : Int32) (h0 : Heap) (n0 : Nat) (O0 : Old Z n0 h0) (F_d : Fld Z h0 a0_ sq5 "departures" "[[I" (.ref dp)) (V_d : Arv Z h0 dp kd_ (.array .int) (2 : Int32) [(.ref d0), (.ref d1)] .null) (A0 : Arr Z h0 d0 c0 .int) (S0 : c0.slots.size = k0.toNatClampNeg) (hk0_0 : ¬ k0 < 0) (A1 : Arr Z h0 d1 c1 .int) (S1 : c1.slots.size = k1.toNatClampNeg) (hk0_1 : ¬ k1 < 0) :
    Met l Z ws mm7 prog_32_method_6_code 6 (some .int) (Rm 0 0 0 0) #[(.ref a0_)] h0 (Q40_2 Z a0_ dp kd_ d0 c0 k0 d1 c1 k1 h0 n0) := by
  refine Met.enter (L0 := #[SR a0_, .unset, .unset, .unset, .unset, .unset]) (plainFor_of_name pn444) (fun m => ef40_0 m a0_) ?_
  intro p e s m below meth c s₁ hx hby hml hown hnm hret hlk hZ X0 e0
  have N0 := Fr.nil n0
  have Z0 := own_z0 O0
  have K0 : Keep h0 h0 [] := Keep.refl h0 _
  refine Go.st (t' := s₁.setTop (mkF m 3 #[SR a0_, SI 0, .unset, .unset, .unset, .unset] [(.ref a0_)])) (fun target kt => ?_) ?_
  · refine XS.iconst X0.here hx rfl (hb hby d40_0) ?_
    refine XS.istoreN X0.here hx rfl (hb hby d40_1) rfl (l' := #[SR a0_, SI 0, .unset, .unset, .unset, .unset]) rfl ?_
    refine XS.aloadN X0.here hx rfl (hb hby d40_2) rfl rfl ?_
    exact kt
  obtain ⟨T10, X10, e10, st10⟩ := getF X0 hx hZ hown (host := "") (Or.inl (hw _ tw300)) Via.refl e0 F_d (g := (mkF m 3 #[SR a0_, SI 0, .unset, .unset, .unset, .unset] [(.ref a0_)])) rfl rfl (hb hby d40_3)
  refine Go.st st10 ?_
  obtain ⟨cl11, Ar11, -, S11, M11, -, -⟩ := id V_d
  obtain ⟨cl12, Ar12, -, S12, M12, H12, -⟩ := id V_d
  have hin12 : ¬ ((0 : Int32) < 0 ∨ cl12.slots.size ≤ ((0 : Int32)).toNatClampNeg) := inb_of S12 ⟨by decide, by decide⟩
  have hat12 : cl12.slots[((0 : Int32)).toNatClampNeg]? = some (.ref d0) := H12.at hin12 rfl
  refine Go.st (t' := T10.setTop (mkF m 28 #[SR a0_, SI 0, SR dp, SI 2, SI 0, SR d0] [(.int k0)])) (fun target kt => ?_) ?_
  · refine XS.astoreN X10.here hx rfl (hb hby d40_6) rfl rfl (l' := #[SR a0_, SI 0, SR dp, .unset, .unset, .unset]) rfl ?_
    refine XS.aloadN X10.here hx rfl (hb hby d40_7) rfl rfl ?_
    refine X10.arraylength hx (by rw [e10]; exact Ar11.1) (State.isArrayOf_alike hZ.alike Ar11.2.1) (g := (mkF m 8 #[SR a0_, SI 0, SR dp, .unset, .unset, .unset] [(.ref dp)])) rfl rfl (hb hby d40_8) _ ?_
    rw [len_of S11 M11]
    refine XS.istoreN X10.here hx rfl (hb hby d40_9) rfl (l' := #[SR a0_, SI 0, SR dp, SI 2, .unset, .unset]) rfl ?_
    refine XS.iconst X10.here hx rfl (hb hby d40_10) ?_
    refine XS.istore X10.here hx rfl (hb hby d40_11) rfl (l' := #[SR a0_, SI 0, SR dp, SI 2, SI 0, .unset]) rfl ?_
    refine XS.iload X10.here hx rfl (hb hby d40_13) rfl ?_
    refine XS.iloadN X10.here hx rfl (hb hby d40_15) rfl ?_
    refine XS.icmpNo X10.here hx rfl (hb hby d40_16) rfl (tlt (by decide : (0 : Int32) < (2 : Int32))).2.1 ?_
    refine XS.aloadN X10.here hx rfl (hb hby d40_19) rfl rfl ?_
    refine XS.iload X10.here hx rfl (hb hby d40_20) rfl ?_
    refine X10.aaload hx (j := (0 : Int32)) (v := (.ref d0)) (by rw [e10]; exact Ar12.1) (State.isArrayOf_alike hZ.alike Ar12.2.1) rfl Ar12.2.2 hin12 hat12 (g := (mkF m 22 #[SR a0_, SI 0, SR dp, SI 2, SI 0, .unset] [(.int 0), (.ref dp)])) rfl rfl (hb hby d40_22) _ ?_
    refine XS.astore X10.here hx rfl (hb hby d40_23) rfl rfl (l' := #[SR a0_, SI 0, SR dp, SI 2, SI 0, SR d0]) rfl ?_
    refine XS.aload X10.here hx rfl (hb hby d40_25) rfl rfl ?_
    refine X10.arraylength hx (by rw [e10]; exact A0.1) (State.isArrayOf_alike hZ.alike A0.2.1) (g := (mkF m 27 #[SR a0_, SI 0, SR dp, SI 2, SI 0, SR d0] [(.ref d0)])) rfl rfl (hb hby d40_27) _ ?_
    rw [len_of S0 hk0_0]
    exact kt
  rcases Classical.em ((0 : Int32) < k0) with hc14 | hc14
  · obtain ⟨cl15, Ar15, -, S15, M15, H15, -⟩ := id V_d
    have hin15 : ¬ ((1 : Int32) < 0 ∨ cl15.slots.size ≤ ((1 : Int32)).toNatClampNeg) := inb_of S15 ⟨by decide, by decide⟩
    have hat15 : cl15.slots[((1 : Int32)).toNatClampNeg]? = some (.ref d1) := H15.at hin15 rfl
    refine Go.st (t' := T10.setTop (mkF m 28 #[SR a0_, SI 1, SR dp, SI 2, SI 1, SR d1] [(.int k1)])) (fun target kt => ?_) ?_
    · refine XS.ifNo X10.here hx rfl (hb hby d40_28) rfl ((if0 _ _).trans (tlt hc14).2.2.2) ?_
      refine XS.iinc X10.here hx rfl (hb hby d40_31) rfl (l' := #[SR a0_, SI 1, SR dp, SI 2, SI 0, SR d0]) rfl ?_
      refine XS.iinc X10.here hx rfl (hb hby d40_34) rfl (l' := #[SR a0_, SI 1, SR dp, SI 2, SI 1, SR d0]) rfl ?_
      refine XS.goto X10.here hx rfl (pc0 := 37) (pc' := 13) rfl (hb hby d40_37) (by decide) (by decide) ?_
      refine XS.iload X10.here hx rfl (hb hby d40_13) rfl ?_
      refine XS.iloadN X10.here hx rfl (hb hby d40_15) rfl ?_
      refine XS.icmpNo X10.here hx rfl (hb hby d40_16) rfl (tlt (by decide : (1 : Int32) < (2 : Int32))).2.1 ?_
      refine XS.aloadN X10.here hx rfl (hb hby d40_19) rfl rfl ?_
      refine XS.iload X10.here hx rfl (hb hby d40_20) rfl ?_
      refine X10.aaload hx (j := (1 : Int32)) (v := (.ref d1)) (by rw [e10]; exact Ar15.1) (State.isArrayOf_alike hZ.alike Ar15.2.1) rfl Ar15.2.2 hin15 hat15 (g := (mkF m 22 #[SR a0_, SI 1, SR dp, SI 2, SI 1, SR d0] [(.int 1), (.ref dp)])) rfl rfl (hb hby d40_22) _ ?_
      refine XS.astore X10.here hx rfl (hb hby d40_23) rfl rfl (l' := #[SR a0_, SI 1, SR dp, SI 2, SI 1, SR d1]) rfl ?_
      refine XS.aload X10.here hx rfl (hb hby d40_25) rfl rfl ?_
      refine X10.arraylength hx (by rw [e10]; exact A1.1) (State.isArrayOf_alike hZ.alike A1.2.1) (g := (mkF m 27 #[SR a0_, SI 1, SR dp, SI 2, SI 1, SR d1] [(.ref d1)])) rfl rfl (hb hby d40_27) _ ?_
      rw [len_of S1 hk0_1]
      exact kt
    rcases Classical.em ((0 : Int32) < k1) with hc17 | hc17
    · refine Go.st (t' := T10.setTop (mkF m 41 #[SR a0_, SI 2, SR dp, SI 2, SI 2, SR d1] [(.int 2)])) (fun target kt => ?_) ?_
      · refine XS.ifNo X10.here hx rfl (hb hby d40_28) rfl ((if0 _ _).trans (tlt hc17).2.2.2) ?_
        refine XS.iinc X10.here hx rfl (hb hby d40_31) rfl (l' := #[SR a0_, SI 2, SR dp, SI 2, SI 1, SR d1]) rfl ?_
        refine XS.iinc X10.here hx rfl (hb hby d40_34) rfl (l' := #[SR a0_, SI 2, SR dp, SI 2, SI 2, SR d1]) rfl ?_
        refine XS.goto X10.here hx rfl (pc0 := 37) (pc' := 13) rfl (hb hby d40_37) (by decide) (by decide) ?_
        refine XS.iload X10.here hx rfl (hb hby d40_13) rfl ?_
        refine XS.iloadN X10.here hx rfl (hb hby d40_15) rfl ?_
        refine XS.icmpYes X10.here hx rfl (pc0 := 16) (pc' := 40) rfl (hb hby d40_16) rfl (flt (by decide : ¬ ((2 : Int32) < (2 : Int32)))).2.1 (by decide) (by decide) ?_
        refine XS.iloadN X10.here hx rfl (hb hby d40_40) rfl ?_
        exact kt
      refine Go.ret X10 (v := some (.int 2)) (fun h => by rw [hret] at h; cases h) hlk (fun fs hr => retI X10 hx hret (hb hby d40_41) hr) ?_ (by decide) (by decide)
      show Q40_2 Z a0_ dp kd_ d0 c0 k0 d1 c1 k1 h0 n0 _ T10.heap _
      rw [e10]
      exact ⟨(by simp [own_t2, own_pos hc14, own_pos hc17]), N0, rfl⟩
    · refine Go.st (t' := T10.setTop (mkF m 41 #[SR a0_, SI 1, SR dp, SI 2, SI 2, SR d1] [(.int 1)])) (fun target kt => ?_) ?_
      · refine XS.ifYes X10.here hx rfl (pc0 := 28) (pc' := 34) rfl (hb hby d40_28) rfl ((if0 _ _).trans (flt hc17).2.2.2) (by decide) (by decide) ?_
        refine XS.iinc X10.here hx rfl (hb hby d40_34) rfl (l' := #[SR a0_, SI 1, SR dp, SI 2, SI 2, SR d1]) rfl ?_
        refine XS.goto X10.here hx rfl (pc0 := 37) (pc' := 13) rfl (hb hby d40_37) (by decide) (by decide) ?_
        refine XS.iload X10.here hx rfl (hb hby d40_13) rfl ?_
        refine XS.iloadN X10.here hx rfl (hb hby d40_15) rfl ?_
        refine XS.icmpYes X10.here hx rfl (pc0 := 16) (pc' := 40) rfl (hb hby d40_16) rfl (flt (by decide : ¬ ((2 : Int32) < (2 : Int32)))).2.1 (by decide) (by decide) ?_
        refine XS.iloadN X10.here hx rfl (hb hby d40_40) rfl ?_
        exact kt
      refine Go.ret X10 (v := some (.int 1)) (fun h => by rw [hret] at h; cases h) hlk (fun fs hr => retI X10 hx hret (hb hby d40_41) hr) ?_ (by decide) (by decide)
      show Q40_2 Z a0_ dp kd_ d0 c0 k0 d1 c1 k1 h0 n0 _ T10.heap _
      rw [e10]
      exact ⟨(by simp [own_t2, own_pos hc14, own_npos hc17 hk0_1]), N0, rfl⟩
  · obtain ⟨cl18, Ar18, -, S18, M18, H18, -⟩ := id V_d
    have hin18 : ¬ ((1 : Int32) < 0 ∨ cl18.slots.size ≤ ((1 : Int32)).toNatClampNeg) := inb_of S18 ⟨by decide, by decide⟩
    have hat18 : cl18.slots[((1 : Int32)).toNatClampNeg]? = some (.ref d1) := H18.at hin18 rfl
    refine Go.st (t' := T10.setTop (mkF m 28 #[SR a0_, SI 0, SR dp, SI 2, SI 1, SR d1] [(.int k1)])) (fun target kt => ?_) ?_
    · refine XS.ifYes X10.here hx rfl (pc0 := 28) (pc' := 34) rfl (hb hby d40_28) rfl ((if0 _ _).trans (flt hc14).2.2.2) (by decide) (by decide) ?_
      refine XS.iinc X10.here hx rfl (hb hby d40_34) rfl (l' := #[SR a0_, SI 0, SR dp, SI 2, SI 1, SR d0]) rfl ?_
      refine XS.goto X10.here hx rfl (pc0 := 37) (pc' := 13) rfl (hb hby d40_37) (by decide) (by decide) ?_
      refine XS.iload X10.here hx rfl (hb hby d40_13) rfl ?_
      refine XS.iloadN X10.here hx rfl (hb hby d40_15) rfl ?_
      refine XS.icmpNo X10.here hx rfl (hb hby d40_16) rfl (tlt (by decide : (1 : Int32) < (2 : Int32))).2.1 ?_
      refine XS.aloadN X10.here hx rfl (hb hby d40_19) rfl rfl ?_
      refine XS.iload X10.here hx rfl (hb hby d40_20) rfl ?_
      refine X10.aaload hx (j := (1 : Int32)) (v := (.ref d1)) (by rw [e10]; exact Ar18.1) (State.isArrayOf_alike hZ.alike Ar18.2.1) rfl Ar18.2.2 hin18 hat18 (g := (mkF m 22 #[SR a0_, SI 0, SR dp, SI 2, SI 1, SR d0] [(.int 1), (.ref dp)])) rfl rfl (hb hby d40_22) _ ?_
      refine XS.astore X10.here hx rfl (hb hby d40_23) rfl rfl (l' := #[SR a0_, SI 0, SR dp, SI 2, SI 1, SR d1]) rfl ?_
      refine XS.aload X10.here hx rfl (hb hby d40_25) rfl rfl ?_
      refine X10.arraylength hx (by rw [e10]; exact A1.1) (State.isArrayOf_alike hZ.alike A1.2.1) (g := (mkF m 27 #[SR a0_, SI 0, SR dp, SI 2, SI 1, SR d1] [(.ref d1)])) rfl rfl (hb hby d40_27) _ ?_
      rw [len_of S1 hk0_1]
      exact kt
    rcases Classical.em ((0 : Int32) < k1) with hc20 | hc20
    · refine Go.st (t' := T10.setTop (mkF m 41 #[SR a0_, SI 1, SR dp, SI 2, SI 2, SR d1] [(.int 1)])) (fun target kt => ?_) ?_
      · refine XS.ifNo X10.here hx rfl (hb hby d40_28) rfl ((if0 _ _).trans (tlt hc20).2.2.2) ?_
        refine XS.iinc X10.here hx rfl (hb hby d40_31) rfl (l' := #[SR a0_, SI 1, SR dp, SI 2, SI 1, SR d1]) rfl ?_
        refine XS.iinc X10.here hx rfl (hb hby d40_34) rfl (l' := #[SR a0_, SI 1, SR dp, SI 2, SI 2, SR d1]) rfl ?_
        refine XS.goto X10.here hx rfl (pc0 := 37) (pc' := 13) rfl (hb hby d40_37) (by decide) (by decide) ?_
        refine XS.iload X10.here hx rfl (hb hby d40_13) rfl ?_
        refine XS.iloadN X10.here hx rfl (hb hby d40_15) rfl ?_
        refine XS.icmpYes X10.here hx rfl (pc0 := 16) (pc' := 40) rfl (hb hby d40_16) rfl (flt (by decide : ¬ ((2 : Int32) < (2 : Int32)))).2.1 (by decide) (by decide) ?_
        refine XS.iloadN X10.here hx rfl (hb hby d40_40) rfl ?_
        exact kt
      refine Go.ret X10 (v := some (.int 1)) (fun h => by rw [hret] at h; cases h) hlk (fun fs hr => retI X10 hx hret (hb hby d40_41) hr) ?_ (by decide) (by decide)
      show Q40_2 Z a0_ dp kd_ d0 c0 k0 d1 c1 k1 h0 n0 _ T10.heap _
      rw [e10]
      exact ⟨(by simp [own_t2, own_npos hc14 hk0_0, own_pos hc20]), N0, rfl⟩
    · refine Go.st (t' := T10.setTop (mkF m 41 #[SR a0_, SI 0, SR dp, SI 2, SI 2, SR d1] [(.int 0)])) (fun target kt => ?_) ?_
      · refine XS.ifYes X10.here hx rfl (pc0 := 28) (pc' := 34) rfl (hb hby d40_28) rfl ((if0 _ _).trans (flt hc20).2.2.2) (by decide) (by decide) ?_
        refine XS.iinc X10.here hx rfl (hb hby d40_34) rfl (l' := #[SR a0_, SI 0, SR dp, SI 2, SI 2, SR d1]) rfl ?_
        refine XS.goto X10.here hx rfl (pc0 := 37) (pc' := 13) rfl (hb hby d40_37) (by decide) (by decide) ?_
        refine XS.iload X10.here hx rfl (hb hby d40_13) rfl ?_
        refine XS.iloadN X10.here hx rfl (hb hby d40_15) rfl ?_
        refine XS.icmpYes X10.here hx rfl (pc0 := 16) (pc' := 40) rfl (hb hby d40_16) rfl (flt (by decide : ¬ ((2 : Int32) < (2 : Int32)))).2.1 (by decide) (by decide) ?_
        refine XS.iloadN X10.here hx rfl (hb hby d40_40) rfl ?_
        exact kt
      refine Go.ret X10 (v := some (.int 0)) (fun h => by rw [hret] at h; cases h) hlk (fun fs hr => retI X10 hx hret (hb hby d40_41) hr) ?_ (by decide) (by decide)
      show Q40_2 Z a0_ dp kd_ d0 c0 k0 d1 c1 k1 h0 n0 _ T10.heap _
      rw [e10]
      exact ⟨(by simp [own_t2, own_npos hc14 hk0_0, own_npos hc20 hk0_1]), N0, rfl⟩
def Q40_3 (Z : State) (a0_ : Addr) (dp : Addr) (kd_ : ClassId) (d0 : Addr) (c0 : Cell) (k0 : Int32) (d1 : Addr) (c1 : Cell) (k1 : Int32) (d2 : Addr) (c2 : Cell) (k2 : Int32) (h0 : Heap) (n0 : Nat) (v : Option Value) (h : Heap) (L : List Loc) : Prop := v = some (.int (own_t3 k0 k1 k2)) ∧ Fr n0 L ∧ h = h0
theorem rm40_3 (l : Launch) (Z : State) (a0 : Array Value) (hw : ∀ d ∈ tables_1, d.before a0 Z = true) (ws : List Jvm.Cond) (a0_ : Addr) (dp : Addr) (kd_ : ClassId) (d0 : Addr) (c0 : Cell) (k0 : Int32) (d1 : Addr) (c1 : Cell) (k1 : Int32) (d2 : Addr) (c2 : Cell) (k2 : Int32) (h0 : Heap) (n0 : Nat) (O0 : Old Z n0 h0) (F_d : Fld Z h0 a0_ sq5 "departures" "[[I" (.ref dp)) (V_d : Arv Z h0 dp kd_ (.array .int) (3 : Int32) [(.ref d0), (.ref d1), (.ref d2)] .null) (A0 : Arr Z h0 d0 c0 .int) (S0 : c0.slots.size = k0.toNatClampNeg) (hk0_0 : ¬ k0 < 0) (A1 : Arr Z h0 d1 c1 .int) (S1 : c1.slots.size = k1.toNatClampNeg) (hk0_1 : ¬ k1 < 0) (A2 : Arr Z h0 d2 c2 .int) (S2 : c2.slots.size = k2.toNatClampNeg) (hk0_2 : ¬ k2 < 0) :
    Met l Z ws mm7 prog_32_method_6_code 6 (some .int) (Rm 0 0 0 0) #[(.ref a0_)] h0 (Q40_3 Z a0_ dp kd_ d0 c0 k0 d1 c1 k1 d2 c2 k2 h0 n0) := by
  refine Met.enter (L0 := #[SR a0_, .unset, .unset, .unset, .unset, .unset]) (plainFor_of_name pn444) (fun m => ef40_0 m a0_) ?_
  intro p e s m below meth c s₁ hx hby hml hown hnm hret hlk hZ X0 e0
  have N0 := Fr.nil n0
  have Z0 := own_z0 O0
  have K0 : Keep h0 h0 [] := Keep.refl h0 _
  refine Go.st (t' := s₁.setTop (mkF m 3 #[SR a0_, SI 0, .unset, .unset, .unset, .unset] [(.ref a0_)])) (fun target kt => ?_) ?_
  · refine XS.iconst X0.here hx rfl (hb hby d40_0) ?_
    refine XS.istoreN X0.here hx rfl (hb hby d40_1) rfl (l' := #[SR a0_, SI 0, .unset, .unset, .unset, .unset]) rfl ?_
    refine XS.aloadN X0.here hx rfl (hb hby d40_2) rfl rfl ?_
    exact kt
  obtain ⟨T10, X10, e10, st10⟩ := getF X0 hx hZ hown (host := "") (Or.inl (hw _ tw300)) Via.refl e0 F_d (g := (mkF m 3 #[SR a0_, SI 0, .unset, .unset, .unset, .unset] [(.ref a0_)])) rfl rfl (hb hby d40_3)
  refine Go.st st10 ?_
  obtain ⟨cl11, Ar11, -, S11, M11, -, -⟩ := id V_d
  obtain ⟨cl12, Ar12, -, S12, M12, H12, -⟩ := id V_d
  have hin12 : ¬ ((0 : Int32) < 0 ∨ cl12.slots.size ≤ ((0 : Int32)).toNatClampNeg) := inb_of S12 ⟨by decide, by decide⟩
  have hat12 : cl12.slots[((0 : Int32)).toNatClampNeg]? = some (.ref d0) := H12.at hin12 rfl
  refine Go.st (t' := T10.setTop (mkF m 28 #[SR a0_, SI 0, SR dp, SI 3, SI 0, SR d0] [(.int k0)])) (fun target kt => ?_) ?_
  · refine XS.astoreN X10.here hx rfl (hb hby d40_6) rfl rfl (l' := #[SR a0_, SI 0, SR dp, .unset, .unset, .unset]) rfl ?_
    refine XS.aloadN X10.here hx rfl (hb hby d40_7) rfl rfl ?_
    refine X10.arraylength hx (by rw [e10]; exact Ar11.1) (State.isArrayOf_alike hZ.alike Ar11.2.1) (g := (mkF m 8 #[SR a0_, SI 0, SR dp, .unset, .unset, .unset] [(.ref dp)])) rfl rfl (hb hby d40_8) _ ?_
    rw [len_of S11 M11]
    refine XS.istoreN X10.here hx rfl (hb hby d40_9) rfl (l' := #[SR a0_, SI 0, SR dp, SI 3, .unset, .unset]) rfl ?_
    refine XS.iconst X10.here hx rfl (hb hby d40_10) ?_
    refine XS.istore X10.here hx rfl (hb hby d40_11) rfl (l' := #[SR a0_, SI 0, SR dp, SI 3, SI 0, .unset]) rfl ?_
    refine XS.iload X10.here hx rfl (hb hby d40_13) rfl ?_
    refine XS.iloadN X10.here hx rfl (hb hby d40_15) rfl ?_
    refine XS.icmpNo X10.here hx rfl (hb hby d40_16) rfl (tlt (by decide : (0 : Int32) < (3 : Int32))).2.1 ?_
    refine XS.aloadN X10.here hx rfl (hb hby d40_19) rfl rfl ?_
    refine XS.iload X10.here hx rfl (hb hby d40_20) rfl ?_
    refine X10.aaload hx (j := (0 : Int32)) (v := (.ref d0)) (by rw [e10]; exact Ar12.1) (State.isArrayOf_alike hZ.alike Ar12.2.1) rfl Ar12.2.2 hin12 hat12 (g := (mkF m 22 #[SR a0_, SI 0, SR dp, SI 3, SI 0, .unset] [(.int 0), (.ref dp)])) rfl rfl (hb hby d40_22) _ ?_
    refine XS.astore X10.here hx rfl (hb hby d40_23) rfl rfl (l' := #[SR a0_, SI 0, SR dp, SI 3, SI 0, SR d0]) rfl ?_
    refine XS.aload X10.here hx rfl (hb hby d40_25) rfl rfl ?_
    refine X10.arraylength hx (by rw [e10]; exact A0.1) (State.isArrayOf_alike hZ.alike A0.2.1) (g := (mkF m 27 #[SR a0_, SI 0, SR dp, SI 3, SI 0, SR d0] [(.ref d0)])) rfl rfl (hb hby d40_27) _ ?_
    rw [len_of S0 hk0_0]
    exact kt
  rcases Classical.em ((0 : Int32) < k0) with hc14 | hc14
  · obtain ⟨cl15, Ar15, -, S15, M15, H15, -⟩ := id V_d
    have hin15 : ¬ ((1 : Int32) < 0 ∨ cl15.slots.size ≤ ((1 : Int32)).toNatClampNeg) := inb_of S15 ⟨by decide, by decide⟩
    have hat15 : cl15.slots[((1 : Int32)).toNatClampNeg]? = some (.ref d1) := H15.at hin15 rfl
    refine Go.st (t' := T10.setTop (mkF m 28 #[SR a0_, SI 1, SR dp, SI 3, SI 1, SR d1] [(.int k1)])) (fun target kt => ?_) ?_
    · refine XS.ifNo X10.here hx rfl (hb hby d40_28) rfl ((if0 _ _).trans (tlt hc14).2.2.2) ?_
      refine XS.iinc X10.here hx rfl (hb hby d40_31) rfl (l' := #[SR a0_, SI 1, SR dp, SI 3, SI 0, SR d0]) rfl ?_
      refine XS.iinc X10.here hx rfl (hb hby d40_34) rfl (l' := #[SR a0_, SI 1, SR dp, SI 3, SI 1, SR d0]) rfl ?_
      refine XS.goto X10.here hx rfl (pc0 := 37) (pc' := 13) rfl (hb hby d40_37) (by decide) (by decide) ?_
      refine XS.iload X10.here hx rfl (hb hby d40_13) rfl ?_
      refine XS.iloadN X10.here hx rfl (hb hby d40_15) rfl ?_
      refine XS.icmpNo X10.here hx rfl (hb hby d40_16) rfl (tlt (by decide : (1 : Int32) < (3 : Int32))).2.1 ?_
      refine XS.aloadN X10.here hx rfl (hb hby d40_19) rfl rfl ?_
      refine XS.iload X10.here hx rfl (hb hby d40_20) rfl ?_
      refine X10.aaload hx (j := (1 : Int32)) (v := (.ref d1)) (by rw [e10]; exact Ar15.1) (State.isArrayOf_alike hZ.alike Ar15.2.1) rfl Ar15.2.2 hin15 hat15 (g := (mkF m 22 #[SR a0_, SI 1, SR dp, SI 3, SI 1, SR d0] [(.int 1), (.ref dp)])) rfl rfl (hb hby d40_22) _ ?_
      refine XS.astore X10.here hx rfl (hb hby d40_23) rfl rfl (l' := #[SR a0_, SI 1, SR dp, SI 3, SI 1, SR d1]) rfl ?_
      refine XS.aload X10.here hx rfl (hb hby d40_25) rfl rfl ?_
      refine X10.arraylength hx (by rw [e10]; exact A1.1) (State.isArrayOf_alike hZ.alike A1.2.1) (g := (mkF m 27 #[SR a0_, SI 1, SR dp, SI 3, SI 1, SR d1] [(.ref d1)])) rfl rfl (hb hby d40_27) _ ?_
      rw [len_of S1 hk0_1]
      exact kt
    rcases Classical.em ((0 : Int32) < k1) with hc17 | hc17
    · obtain ⟨cl18, Ar18, -, S18, M18, H18, -⟩ := id V_d
      have hin18 : ¬ ((2 : Int32) < 0 ∨ cl18.slots.size ≤ ((2 : Int32)).toNatClampNeg) := inb_of S18 ⟨by decide, by decide⟩
      have hat18 : cl18.slots[((2 : Int32)).toNatClampNeg]? = some (.ref d2) := H18.at hin18 rfl
      refine Go.st (t' := T10.setTop (mkF m 28 #[SR a0_, SI 2, SR dp, SI 3, SI 2, SR d2] [(.int k2)])) (fun target kt => ?_) ?_
      · refine XS.ifNo X10.here hx rfl (hb hby d40_28) rfl ((if0 _ _).trans (tlt hc17).2.2.2) ?_
        refine XS.iinc X10.here hx rfl (hb hby d40_31) rfl (l' := #[SR a0_, SI 2, SR dp, SI 3, SI 1, SR d1]) rfl ?_
        refine XS.iinc X10.here hx rfl (hb hby d40_34) rfl (l' := #[SR a0_, SI 2, SR dp, SI 3, SI 2, SR d1]) rfl ?_
        refine XS.goto X10.here hx rfl (pc0 := 37) (pc' := 13) rfl (hb hby d40_37) (by decide) (by decide) ?_
        refine XS.iload X10.here hx rfl (hb hby d40_13) rfl ?_
        refine XS.iloadN X10.here hx rfl (hb hby d40_15) rfl ?_
        refine XS.icmpNo X10.here hx rfl (hb hby d40_16) rfl (tlt (by decide : (2 : Int32) < (3 : Int32))).2.1 ?_
        refine XS.aloadN X10.here hx rfl (hb hby d40_19) rfl rfl ?_
        refine XS.iload X10.here hx rfl (hb hby d40_20) rfl ?_
        refine X10.aaload hx (j := (2 : Int32)) (v := (.ref d2)) (by rw [e10]; exact Ar18.1) (State.isArrayOf_alike hZ.alike Ar18.2.1) rfl Ar18.2.2 hin18 hat18 (g := (mkF m 22 #[SR a0_, SI 2, SR dp, SI 3, SI 2, SR d1] [(.int 2), (.ref dp)])) rfl rfl (hb hby d40_22) _ ?_
        refine XS.astore X10.here hx rfl (hb hby d40_23) rfl rfl (l' := #[SR a0_, SI 2, SR dp, SI 3, SI 2, SR d2]) rfl ?_
        refine XS.aload X10.here hx rfl (hb hby d40_25) rfl rfl ?_
        refine X10.arraylength hx (by rw [e10]; exact A2.1) (State.isArrayOf_alike hZ.alike A2.2.1) (g := (mkF m 27 #[SR a0_, SI 2, SR dp, SI 3, SI 2, SR d2] [(.ref d2)])) rfl rfl (hb hby d40_27) _ ?_
        rw [len_of S2 hk0_2]
        exact kt
      rcases Classical.em ((0 : Int32) < k2) with hc20 | hc20
      · refine Go.st (t' := T10.setTop (mkF m 41 #[SR a0_, SI 3, SR dp, SI 3, SI 3, SR d2] [(.int 3)])) (fun target kt => ?_) ?_
        · refine XS.ifNo X10.here hx rfl (hb hby d40_28) rfl ((if0 _ _).trans (tlt hc20).2.2.2) ?_
          refine XS.iinc X10.here hx rfl (hb hby d40_31) rfl (l' := #[SR a0_, SI 3, SR dp, SI 3, SI 2, SR d2]) rfl ?_
          refine XS.iinc X10.here hx rfl (hb hby d40_34) rfl (l' := #[SR a0_, SI 3, SR dp, SI 3, SI 3, SR d2]) rfl ?_
          refine XS.goto X10.here hx rfl (pc0 := 37) (pc' := 13) rfl (hb hby d40_37) (by decide) (by decide) ?_
          refine XS.iload X10.here hx rfl (hb hby d40_13) rfl ?_
          refine XS.iloadN X10.here hx rfl (hb hby d40_15) rfl ?_
          refine XS.icmpYes X10.here hx rfl (pc0 := 16) (pc' := 40) rfl (hb hby d40_16) rfl (flt (by decide : ¬ ((3 : Int32) < (3 : Int32)))).2.1 (by decide) (by decide) ?_
          refine XS.iloadN X10.here hx rfl (hb hby d40_40) rfl ?_
          exact kt
        refine Go.ret X10 (v := some (.int 3)) (fun h => by rw [hret] at h; cases h) hlk (fun fs hr => retI X10 hx hret (hb hby d40_41) hr) ?_ (by decide) (by decide)
        show Q40_3 Z a0_ dp kd_ d0 c0 k0 d1 c1 k1 d2 c2 k2 h0 n0 _ T10.heap _
        rw [e10]
        exact ⟨(by simp [own_t3, own_pos hc14, own_pos hc17, own_pos hc20]), N0, rfl⟩
      · refine Go.st (t' := T10.setTop (mkF m 41 #[SR a0_, SI 2, SR dp, SI 3, SI 3, SR d2] [(.int 2)])) (fun target kt => ?_) ?_
        · refine XS.ifYes X10.here hx rfl (pc0 := 28) (pc' := 34) rfl (hb hby d40_28) rfl ((if0 _ _).trans (flt hc20).2.2.2) (by decide) (by decide) ?_
          refine XS.iinc X10.here hx rfl (hb hby d40_34) rfl (l' := #[SR a0_, SI 2, SR dp, SI 3, SI 3, SR d2]) rfl ?_
          refine XS.goto X10.here hx rfl (pc0 := 37) (pc' := 13) rfl (hb hby d40_37) (by decide) (by decide) ?_
          refine XS.iload X10.here hx rfl (hb hby d40_13) rfl ?_
          refine XS.iloadN X10.here hx rfl (hb hby d40_15) rfl ?_
          refine XS.icmpYes X10.here hx rfl (pc0 := 16) (pc' := 40) rfl (hb hby d40_16) rfl (flt (by decide : ¬ ((3 : Int32) < (3 : Int32)))).2.1 (by decide) (by decide) ?_
          refine XS.iloadN X10.here hx rfl (hb hby d40_40) rfl ?_
          exact kt
        refine Go.ret X10 (v := some (.int 2)) (fun h => by rw [hret] at h; cases h) hlk (fun fs hr => retI X10 hx hret (hb hby d40_41) hr) ?_ (by decide) (by decide)
        show Q40_3 Z a0_ dp kd_ d0 c0 k0 d1 c1 k1 d2 c2 k2 h0 n0 _ T10.heap _
        rw [e10]
        exact ⟨(by simp [own_t3, own_pos hc14, own_pos hc17, own_npos hc20 hk0_2]), N0, rfl⟩
    · obtain ⟨cl21, Ar21, -, S21, M21, H21, -⟩ := id V_d
      have hin21 : ¬ ((2 : Int32) < 0 ∨ cl21.slots.size ≤ ((2 : Int32)).toNatClampNeg) := inb_of S21 ⟨by decide, by decide⟩
      have hat21 : cl21.slots[((2 : Int32)).toNatClampNeg]? = some (.ref d2) := H21.at hin21 rfl
      refine Go.st (t' := T10.setTop (mkF m 28 #[SR a0_, SI 1, SR dp, SI 3, SI 2, SR d2] [(.int k2)])) (fun target kt => ?_) ?_
      · refine XS.ifYes X10.here hx rfl (pc0 := 28) (pc' := 34) rfl (hb hby d40_28) rfl ((if0 _ _).trans (flt hc17).2.2.2) (by decide) (by decide) ?_
        refine XS.iinc X10.here hx rfl (hb hby d40_34) rfl (l' := #[SR a0_, SI 1, SR dp, SI 3, SI 2, SR d1]) rfl ?_
        refine XS.goto X10.here hx rfl (pc0 := 37) (pc' := 13) rfl (hb hby d40_37) (by decide) (by decide) ?_
        refine XS.iload X10.here hx rfl (hb hby d40_13) rfl ?_
        refine XS.iloadN X10.here hx rfl (hb hby d40_15) rfl ?_
        refine XS.icmpNo X10.here hx rfl (hb hby d40_16) rfl (tlt (by decide : (2 : Int32) < (3 : Int32))).2.1 ?_
        refine XS.aloadN X10.here hx rfl (hb hby d40_19) rfl rfl ?_
        refine XS.iload X10.here hx rfl (hb hby d40_20) rfl ?_
        refine X10.aaload hx (j := (2 : Int32)) (v := (.ref d2)) (by rw [e10]; exact Ar21.1) (State.isArrayOf_alike hZ.alike Ar21.2.1) rfl Ar21.2.2 hin21 hat21 (g := (mkF m 22 #[SR a0_, SI 1, SR dp, SI 3, SI 2, SR d1] [(.int 2), (.ref dp)])) rfl rfl (hb hby d40_22) _ ?_
        refine XS.astore X10.here hx rfl (hb hby d40_23) rfl rfl (l' := #[SR a0_, SI 1, SR dp, SI 3, SI 2, SR d2]) rfl ?_
        refine XS.aload X10.here hx rfl (hb hby d40_25) rfl rfl ?_
        refine X10.arraylength hx (by rw [e10]; exact A2.1) (State.isArrayOf_alike hZ.alike A2.2.1) (g := (mkF m 27 #[SR a0_, SI 1, SR dp, SI 3, SI 2, SR d2] [(.ref d2)])) rfl rfl (hb hby d40_27) _ ?_
        rw [len_of S2 hk0_2]
        exact kt
      rcases Classical.em ((0 : Int32) < k2) with hc23 | hc23
      · refine Go.st (t' := T10.setTop (mkF m 41 #[SR a0_, SI 2, SR dp, SI 3, SI 3, SR d2] [(.int 2)])) (fun target kt => ?_) ?_
        · refine XS.ifNo X10.here hx rfl (hb hby d40_28) rfl ((if0 _ _).trans (tlt hc23).2.2.2) ?_
          refine XS.iinc X10.here hx rfl (hb hby d40_31) rfl (l' := #[SR a0_, SI 2, SR dp, SI 3, SI 2, SR d2]) rfl ?_
          refine XS.iinc X10.here hx rfl (hb hby d40_34) rfl (l' := #[SR a0_, SI 2, SR dp, SI 3, SI 3, SR d2]) rfl ?_
          refine XS.goto X10.here hx rfl (pc0 := 37) (pc' := 13) rfl (hb hby d40_37) (by decide) (by decide) ?_
          refine XS.iload X10.here hx rfl (hb hby d40_13) rfl ?_
          refine XS.iloadN X10.here hx rfl (hb hby d40_15) rfl ?_
          refine XS.icmpYes X10.here hx rfl (pc0 := 16) (pc' := 40) rfl (hb hby d40_16) rfl (flt (by decide : ¬ ((3 : Int32) < (3 : Int32)))).2.1 (by decide) (by decide) ?_
          refine XS.iloadN X10.here hx rfl (hb hby d40_40) rfl ?_
          exact kt
        refine Go.ret X10 (v := some (.int 2)) (fun h => by rw [hret] at h; cases h) hlk (fun fs hr => retI X10 hx hret (hb hby d40_41) hr) ?_ (by decide) (by decide)
        show Q40_3 Z a0_ dp kd_ d0 c0 k0 d1 c1 k1 d2 c2 k2 h0 n0 _ T10.heap _
        rw [e10]
        exact ⟨(by simp [own_t3, own_pos hc14, own_npos hc17 hk0_1, own_pos hc23]), N0, rfl⟩
      · refine Go.st (t' := T10.setTop (mkF m 41 #[SR a0_, SI 1, SR dp, SI 3, SI 3, SR d2] [(.int 1)])) (fun target kt => ?_) ?_
        · refine XS.ifYes X10.here hx rfl (pc0 := 28) (pc' := 34) rfl (hb hby d40_28) rfl ((if0 _ _).trans (flt hc23).2.2.2) (by decide) (by decide) ?_
          refine XS.iinc X10.here hx rfl (hb hby d40_34) rfl (l' := #[SR a0_, SI 1, SR dp, SI 3, SI 3, SR d2]) rfl ?_
          refine XS.goto X10.here hx rfl (pc0 := 37) (pc' := 13) rfl (hb hby d40_37) (by decide) (by decide) ?_
          refine XS.iload X10.here hx rfl (hb hby d40_13) rfl ?_
          refine XS.iloadN X10.here hx rfl (hb hby d40_15) rfl ?_
          refine XS.icmpYes X10.here hx rfl (pc0 := 16) (pc' := 40) rfl (hb hby d40_16) rfl (flt (by decide : ¬ ((3 : Int32) < (3 : Int32)))).2.1 (by decide) (by decide) ?_
          refine XS.iloadN X10.here hx rfl (hb hby d40_40) rfl ?_
          exact kt
        refine Go.ret X10 (v := some (.int 1)) (fun h => by rw [hret] at h; cases h) hlk (fun fs hr => retI X10 hx hret (hb hby d40_41) hr) ?_ (by decide) (by decide)
        show Q40_3 Z a0_ dp kd_ d0 c0 k0 d1 c1 k1 d2 c2 k2 h0 n0 _ T10.heap _
        rw [e10]
        exact ⟨(by simp [own_t3, own_pos hc14, own_npos hc17 hk0_1, own_npos hc23 hk0_2]), N0, rfl⟩
  · obtain ⟨cl24, Ar24, -, S24, M24, H24, -⟩ := id V_d
    have hin24 : ¬ ((1 : Int32) < 0 ∨ cl24.slots.size ≤ ((1 : Int32)).toNatClampNeg) := inb_of S24 ⟨by decide, by decide⟩
    have hat24 : cl24.slots[((1 : Int32)).toNatClampNeg]? = some (.ref d1) := H24.at hin24 rfl
    refine Go.st (t' := T10.setTop (mkF m 28 #[SR a0_, SI 0, SR dp, SI 3, SI 1, SR d1] [(.int k1)])) (fun target kt => ?_) ?_
    · refine XS.ifYes X10.here hx rfl (pc0 := 28) (pc' := 34) rfl (hb hby d40_28) rfl ((if0 _ _).trans (flt hc14).2.2.2) (by decide) (by decide) ?_
      refine XS.iinc X10.here hx rfl (hb hby d40_34) rfl (l' := #[SR a0_, SI 0, SR dp, SI 3, SI 1, SR d0]) rfl ?_
      refine XS.goto X10.here hx rfl (pc0 := 37) (pc' := 13) rfl (hb hby d40_37) (by decide) (by decide) ?_
      refine XS.iload X10.here hx rfl (hb hby d40_13) rfl ?_
      refine XS.iloadN X10.here hx rfl (hb hby d40_15) rfl ?_
      refine XS.icmpNo X10.here hx rfl (hb hby d40_16) rfl (tlt (by decide : (1 : Int32) < (3 : Int32))).2.1 ?_
      refine XS.aloadN X10.here hx rfl (hb hby d40_19) rfl rfl ?_
      refine XS.iload X10.here hx rfl (hb hby d40_20) rfl ?_
      refine X10.aaload hx (j := (1 : Int32)) (v := (.ref d1)) (by rw [e10]; exact Ar24.1) (State.isArrayOf_alike hZ.alike Ar24.2.1) rfl Ar24.2.2 hin24 hat24 (g := (mkF m 22 #[SR a0_, SI 0, SR dp, SI 3, SI 1, SR d0] [(.int 1), (.ref dp)])) rfl rfl (hb hby d40_22) _ ?_
      refine XS.astore X10.here hx rfl (hb hby d40_23) rfl rfl (l' := #[SR a0_, SI 0, SR dp, SI 3, SI 1, SR d1]) rfl ?_
      refine XS.aload X10.here hx rfl (hb hby d40_25) rfl rfl ?_
      refine X10.arraylength hx (by rw [e10]; exact A1.1) (State.isArrayOf_alike hZ.alike A1.2.1) (g := (mkF m 27 #[SR a0_, SI 0, SR dp, SI 3, SI 1, SR d1] [(.ref d1)])) rfl rfl (hb hby d40_27) _ ?_
      rw [len_of S1 hk0_1]
      exact kt
    rcases Classical.em ((0 : Int32) < k1) with hc26 | hc26
    · obtain ⟨cl27, Ar27, -, S27, M27, H27, -⟩ := id V_d
      have hin27 : ¬ ((2 : Int32) < 0 ∨ cl27.slots.size ≤ ((2 : Int32)).toNatClampNeg) := inb_of S27 ⟨by decide, by decide⟩
      have hat27 : cl27.slots[((2 : Int32)).toNatClampNeg]? = some (.ref d2) := H27.at hin27 rfl
      refine Go.st (t' := T10.setTop (mkF m 28 #[SR a0_, SI 1, SR dp, SI 3, SI 2, SR d2] [(.int k2)])) (fun target kt => ?_) ?_
      · refine XS.ifNo X10.here hx rfl (hb hby d40_28) rfl ((if0 _ _).trans (tlt hc26).2.2.2) ?_
        refine XS.iinc X10.here hx rfl (hb hby d40_31) rfl (l' := #[SR a0_, SI 1, SR dp, SI 3, SI 1, SR d1]) rfl ?_
        refine XS.iinc X10.here hx rfl (hb hby d40_34) rfl (l' := #[SR a0_, SI 1, SR dp, SI 3, SI 2, SR d1]) rfl ?_
        refine XS.goto X10.here hx rfl (pc0 := 37) (pc' := 13) rfl (hb hby d40_37) (by decide) (by decide) ?_
        refine XS.iload X10.here hx rfl (hb hby d40_13) rfl ?_
        refine XS.iloadN X10.here hx rfl (hb hby d40_15) rfl ?_
        refine XS.icmpNo X10.here hx rfl (hb hby d40_16) rfl (tlt (by decide : (2 : Int32) < (3 : Int32))).2.1 ?_
        refine XS.aloadN X10.here hx rfl (hb hby d40_19) rfl rfl ?_
        refine XS.iload X10.here hx rfl (hb hby d40_20) rfl ?_
        refine X10.aaload hx (j := (2 : Int32)) (v := (.ref d2)) (by rw [e10]; exact Ar27.1) (State.isArrayOf_alike hZ.alike Ar27.2.1) rfl Ar27.2.2 hin27 hat27 (g := (mkF m 22 #[SR a0_, SI 1, SR dp, SI 3, SI 2, SR d1] [(.int 2), (.ref dp)])) rfl rfl (hb hby d40_22) _ ?_
        refine XS.astore X10.here hx rfl (hb hby d40_23) rfl rfl (l' := #[SR a0_, SI 1, SR dp, SI 3, SI 2, SR d2]) rfl ?_
        refine XS.aload X10.here hx rfl (hb hby d40_25) rfl rfl ?_
        refine X10.arraylength hx (by rw [e10]; exact A2.1) (State.isArrayOf_alike hZ.alike A2.2.1) (g := (mkF m 27 #[SR a0_, SI 1, SR dp, SI 3, SI 2, SR d2] [(.ref d2)])) rfl rfl (hb hby d40_27) _ ?_
        rw [len_of S2 hk0_2]
        exact kt
      rcases Classical.em ((0 : Int32) < k2) with hc29 | hc29
      · refine Go.st (t' := T10.setTop (mkF m 41 #[SR a0_, SI 2, SR dp, SI 3, SI 3, SR d2] [(.int 2)])) (fun target kt => ?_) ?_
        · refine XS.ifNo X10.here hx rfl (hb hby d40_28) rfl ((if0 _ _).trans (tlt hc29).2.2.2) ?_
          refine XS.iinc X10.here hx rfl (hb hby d40_31) rfl (l' := #[SR a0_, SI 2, SR dp, SI 3, SI 2, SR d2]) rfl ?_
          refine XS.iinc X10.here hx rfl (hb hby d40_34) rfl (l' := #[SR a0_, SI 2, SR dp, SI 3, SI 3, SR d2]) rfl ?_
          refine XS.goto X10.here hx rfl (pc0 := 37) (pc' := 13) rfl (hb hby d40_37) (by decide) (by decide) ?_
          refine XS.iload X10.here hx rfl (hb hby d40_13) rfl ?_
          refine XS.iloadN X10.here hx rfl (hb hby d40_15) rfl ?_
          refine XS.icmpYes X10.here hx rfl (pc0 := 16) (pc' := 40) rfl (hb hby d40_16) rfl (flt (by decide : ¬ ((3 : Int32) < (3 : Int32)))).2.1 (by decide) (by decide) ?_
          refine XS.iloadN X10.here hx rfl (hb hby d40_40) rfl ?_
          exact kt
        refine Go.ret X10 (v := some (.int 2)) (fun h => by rw [hret] at h; cases h) hlk (fun fs hr => retI X10 hx hret (hb hby d40_41) hr) ?_ (by decide) (by decide)
        show Q40_3 Z a0_ dp kd_ d0 c0 k0 d1 c1 k1 d2 c2 k2 h0 n0 _ T10.heap _
        rw [e10]
        exact ⟨(by simp [own_t3, own_npos hc14 hk0_0, own_pos hc26, own_pos hc29]), N0, rfl⟩
      · refine Go.st (t' := T10.setTop (mkF m 41 #[SR a0_, SI 1, SR dp, SI 3, SI 3, SR d2] [(.int 1)])) (fun target kt => ?_) ?_
        · refine XS.ifYes X10.here hx rfl (pc0 := 28) (pc' := 34) rfl (hb hby d40_28) rfl ((if0 _ _).trans (flt hc29).2.2.2) (by decide) (by decide) ?_
          refine XS.iinc X10.here hx rfl (hb hby d40_34) rfl (l' := #[SR a0_, SI 1, SR dp, SI 3, SI 3, SR d2]) rfl ?_
          refine XS.goto X10.here hx rfl (pc0 := 37) (pc' := 13) rfl (hb hby d40_37) (by decide) (by decide) ?_
          refine XS.iload X10.here hx rfl (hb hby d40_13) rfl ?_
          refine XS.iloadN X10.here hx rfl (hb hby d40_15) rfl ?_
          refine XS.icmpYes X10.here hx rfl (pc0 := 16) (pc' := 40) rfl (hb hby d40_16) rfl (flt (by decide : ¬ ((3 : Int32) < (3 : Int32)))).2.1 (by decide) (by decide) ?_
          refine XS.iloadN X10.here hx rfl (hb hby d40_40) rfl ?_
          exact kt
        refine Go.ret X10 (v := some (.int 1)) (fun h => by rw [hret] at h; cases h) hlk (fun fs hr => retI X10 hx hret (hb hby d40_41) hr) ?_ (by decide) (by decide)
        show Q40_3 Z a0_ dp kd_ d0 c0 k0 d1 c1 k1 d2 c2 k2 h0 n0 _ T10.heap _
        rw [e10]
        exact ⟨(by simp [own_t3, own_npos hc14 hk0_0, own_pos hc26, own_npos hc29 hk0_2]), N0, rfl⟩
    · obtain ⟨cl30, Ar30, -, S30, M30, H30, -⟩ := id V_d
      have hin30 : ¬ ((2 : Int32) < 0 ∨ cl30.slots.size ≤ ((2 : Int32)).toNatClampNeg) := inb_of S30 ⟨by decide, by decide⟩
      have hat30 : cl30.slots[((2 : Int32)).toNatClampNeg]? = some (.ref d2) := H30.at hin30 rfl
      refine Go.st (t' := T10.setTop (mkF m 28 #[SR a0_, SI 0, SR dp, SI 3, SI 2, SR d2] [(.int k2)])) (fun target kt => ?_) ?_
      · refine XS.ifYes X10.here hx rfl (pc0 := 28) (pc' := 34) rfl (hb hby d40_28) rfl ((if0 _ _).trans (flt hc26).2.2.2) (by decide) (by decide) ?_
        refine XS.iinc X10.here hx rfl (hb hby d40_34) rfl (l' := #[SR a0_, SI 0, SR dp, SI 3, SI 2, SR d1]) rfl ?_
        refine XS.goto X10.here hx rfl (pc0 := 37) (pc' := 13) rfl (hb hby d40_37) (by decide) (by decide) ?_
        refine XS.iload X10.here hx rfl (hb hby d40_13) rfl ?_
        refine XS.iloadN X10.here hx rfl (hb hby d40_15) rfl ?_
        refine XS.icmpNo X10.here hx rfl (hb hby d40_16) rfl (tlt (by decide : (2 : Int32) < (3 : Int32))).2.1 ?_
        refine XS.aloadN X10.here hx rfl (hb hby d40_19) rfl rfl ?_
        refine XS.iload X10.here hx rfl (hb hby d40_20) rfl ?_
        refine X10.aaload hx (j := (2 : Int32)) (v := (.ref d2)) (by rw [e10]; exact Ar30.1) (State.isArrayOf_alike hZ.alike Ar30.2.1) rfl Ar30.2.2 hin30 hat30 (g := (mkF m 22 #[SR a0_, SI 0, SR dp, SI 3, SI 2, SR d1] [(.int 2), (.ref dp)])) rfl rfl (hb hby d40_22) _ ?_
        refine XS.astore X10.here hx rfl (hb hby d40_23) rfl rfl (l' := #[SR a0_, SI 0, SR dp, SI 3, SI 2, SR d2]) rfl ?_
        refine XS.aload X10.here hx rfl (hb hby d40_25) rfl rfl ?_
        refine X10.arraylength hx (by rw [e10]; exact A2.1) (State.isArrayOf_alike hZ.alike A2.2.1) (g := (mkF m 27 #[SR a0_, SI 0, SR dp, SI 3, SI 2, SR d2] [(.ref d2)])) rfl rfl (hb hby d40_27) _ ?_
        rw [len_of S2 hk0_2]
        exact kt
      rcases Classical.em ((0 : Int32) < k2) with hc32 | hc32
      · refine Go.st (t' := T10.setTop (mkF m 41 #[SR a0_, SI 1, SR dp, SI 3, SI 3, SR d2] [(.int 1)])) (fun target kt => ?_) ?_
        · refine XS.ifNo X10.here hx rfl (hb hby d40_28) rfl ((if0 _ _).trans (tlt hc32).2.2.2) ?_
          refine XS.iinc X10.here hx rfl (hb hby d40_31) rfl (l' := #[SR a0_, SI 1, SR dp, SI 3, SI 2, SR d2]) rfl ?_
          refine XS.iinc X10.here hx rfl (hb hby d40_34) rfl (l' := #[SR a0_, SI 1, SR dp, SI 3, SI 3, SR d2]) rfl ?_
          refine XS.goto X10.here hx rfl (pc0 := 37) (pc' := 13) rfl (hb hby d40_37) (by decide) (by decide) ?_
          refine XS.iload X10.here hx rfl (hb hby d40_13) rfl ?_
          refine XS.iloadN X10.here hx rfl (hb hby d40_15) rfl ?_
          refine XS.icmpYes X10.here hx rfl (pc0 := 16) (pc' := 40) rfl (hb hby d40_16) rfl (flt (by decide : ¬ ((3 : Int32) < (3 : Int32)))).2.1 (by decide) (by decide) ?_
          refine XS.iloadN X10.here hx rfl (hb hby d40_40) rfl ?_
          exact kt
        refine Go.ret X10 (v := some (.int 1)) (fun h => by rw [hret] at h; cases h) hlk (fun fs hr => retI X10 hx hret (hb hby d40_41) hr) ?_ (by decide) (by decide)
        show Q40_3 Z a0_ dp kd_ d0 c0 k0 d1 c1 k1 d2 c2 k2 h0 n0 _ T10.heap _
        rw [e10]
        exact ⟨(by simp [own_t3, own_npos hc14 hk0_0, own_npos hc26 hk0_1, own_pos hc32]), N0, rfl⟩
      · refine Go.st (t' := T10.setTop (mkF m 41 #[SR a0_, SI 0, SR dp, SI 3, SI 3, SR d2] [(.int 0)])) (fun target kt => ?_) ?_
        · refine XS.ifYes X10.here hx rfl (pc0 := 28) (pc' := 34) rfl (hb hby d40_28) rfl ((if0 _ _).trans (flt hc32).2.2.2) (by decide) (by decide) ?_
          refine XS.iinc X10.here hx rfl (hb hby d40_34) rfl (l' := #[SR a0_, SI 0, SR dp, SI 3, SI 3, SR d2]) rfl ?_
          refine XS.goto X10.here hx rfl (pc0 := 37) (pc' := 13) rfl (hb hby d40_37) (by decide) (by decide) ?_
          refine XS.iload X10.here hx rfl (hb hby d40_13) rfl ?_
          refine XS.iloadN X10.here hx rfl (hb hby d40_15) rfl ?_
          refine XS.icmpYes X10.here hx rfl (pc0 := 16) (pc' := 40) rfl (hb hby d40_16) rfl (flt (by decide : ¬ ((3 : Int32) < (3 : Int32)))).2.1 (by decide) (by decide) ?_
          refine XS.iloadN X10.here hx rfl (hb hby d40_40) rfl ?_
          exact kt
        refine Go.ret X10 (v := some (.int 0)) (fun h => by rw [hret] at h; cases h) hlk (fun fs hr => retI X10 hx hret (hb hby d40_41) hr) ?_ (by decide) (by decide)
        show Q40_3 Z a0_ dp kd_ d0 c0 k0 d1 c1 k1 d2 c2 k2 h0 n0 _ T10.heap _
        rw [e10]
        exact ⟨(by simp [own_t3, own_npos hc14 hk0_0, own_npos hc26 hk0_1, own_npos hc32 hk0_2]), N0, rfl⟩
theorem tw0 : (Cond.constant sq21 7 (2147483647 : Int32)) ∈ tables_1 := mAt 0 rfl
theorem tw1 : (Cond.classLink sq21 8 sq8) ∈ tables_1 := mAt 1 rfl
theorem tw4 : (Cond.stringLink sq21 10 "h") ∈ tables_1 := mAt 4 rfl
theorem tw12 : (Cond.methodLink sq21 12 ⟨sq8, "<init>", "(Ljava/lang/String;III)V"⟩) ∈ tables_1 := mAt 12 rfl
theorem tw14 : (Cond.code ⟨sq8, "<init>", "(Ljava/lang/String;III)V"⟩ prog_1_method_1_code 5 (Option.none : Option Jvm.ClassFile.FieldType)) ∈ tables_1 := mAt 14 rfl
theorem pd22 : parseMethodDescriptor "(Ljava/lang/String;III)V" = some ⟨[(.object "java/lang/String"), .int, .int, .int], none⟩ := by decide +kernel
theorem tw13 : (Cond.instanceMethod ⟨sq8, "<init>", "(Ljava/lang/String;III)V"⟩) ∈ tables_1 := mAt 13 rfl
theorem tw36 : (Cond.classLink sq21 15 sq18) ∈ tables_1 := mAt 36 rfl
theorem tw38 : (Cond.initialized sq18) ∈ tables_1 := mAt 38 rfl
theorem tw39 : (Cond.methodLink sq21 17 ⟨sq18, "<init>", "([I)V"⟩) ∈ tables_1 := mAt 39 rfl
theorem tw41 : (Cond.code ⟨sq18, "<init>", "([I)V"⟩ prog_31_method_1_code 2 (Option.none : Option Jvm.ClassFile.FieldType)) ∈ tables_1 := mAt 41 rfl
theorem pd23 : parseMethodDescriptor "([I)V" = some ⟨[(.array .int)], none⟩ := by decide +kernel
theorem tw40 : (Cond.instanceMethod ⟨sq18, "<init>", "([I)V"⟩) ∈ tables_1 := mAt 40 rfl
theorem tw45 : (Cond.classLink sq21 20 sq0) ∈ tables_1 := mAt 45 rfl
theorem tw48 : (Cond.methodLink sq21 22 ⟨sq0, "<init>", "()V"⟩) ∈ tables_1 := mAt 48 rfl
theorem tw50 : (Cond.code ⟨sq0, "<init>", "()V"⟩ jdk_38_method_2_code 1 (Option.none : Option Jvm.ClassFile.FieldType)) ∈ tables_1 := mAt 50 rfl
theorem tw49 : (Cond.instanceMethod ⟨sq0, "<init>", "()V"⟩) ∈ tables_1 := mAt 49 rfl
theorem tw69 : (Cond.methodLink sq21 23 ⟨sq0, "add", sq32⟩) ∈ tables_1 := mAt 69 rfl
theorem tw73 : (Cond.code ⟨sq0, "add", sq32⟩ jdk_38_method_25_code 2 (Option.some FieldType.boolean)) ∈ tables_1 := mAt 73 rfl
theorem pd24 : parseMethodDescriptor "(Ljava/lang/Object;)Z" = some ⟨[(.object "java/lang/Object")], some .boolean⟩ := by decide +kernel
theorem tw72 : (Cond.selects sq0 ⟨sq0, "add", sq32⟩ ⟨sq0, "add", sq32⟩) ∈ tables_1 := mAt 72 rfl
theorem tw70 : (Cond.declares ⟨sq0, "add", sq32⟩) ∈ tables_1 := mAt 70 rfl
theorem tw71 : (Cond.instanceMethod ⟨sq0, "add", sq32⟩) ∈ tables_1 := mAt 71 rfl
theorem tw101 : (Cond.classLink sq21 27 sq4) ∈ tables_1 := mAt 101 rfl
theorem tw104 : (Cond.methodLink sq21 29 ⟨sq4, "<init>", sq45⟩) ∈ tables_1 := mAt 104 rfl
theorem tw106 : (Cond.code ⟨sq4, "<init>", sq45⟩ prog_46_method_1_code 5 (Option.none : Option Jvm.ClassFile.FieldType)) ∈ tables_1 := mAt 106 rfl
theorem pd25 : parseMethodDescriptor "(Ljava/util/List;Ljava/util/List;)V" = some ⟨[(.object "java/util/List"), (.object "java/util/List")], none⟩ := by decide +kernel
theorem tw105 : (Cond.instanceMethod ⟨sq4, "<init>", sq45⟩) ∈ tables_1 := mAt 105 rfl
theorem tw272 : (Cond.classLink sq21 32 sq9) ∈ tables_1 := mAt 272 rfl
theorem tw275 : (Cond.stringLink sq21 34 "p") ∈ tables_1 := mAt 275 rfl
theorem tw276 : (Cond.methodLink sq21 36 ⟨sq9, "<init>", sq49⟩) ∈ tables_1 := mAt 276 rfl
theorem tw278 : (Cond.code ⟨sq9, "<init>", sq49⟩ prog_45_method_1_code 4 (Option.none : Option Jvm.ClassFile.FieldType)) ∈ tables_1 := mAt 278 rfl
theorem pd26 : parseMethodDescriptor "(Ljava/lang/String;Ljava/util/List;I)V" = some ⟨[(.object "java/lang/String"), (.object "java/util/List"), .int], none⟩ := by decide +kernel
theorem tw277 : (Cond.instanceMethod ⟨sq9, "<init>", sq49⟩) ∈ tables_1 := mAt 277 rfl
theorem tw288 : (Cond.classLink sq21 39 sq5) ∈ tables_1 := mAt 288 rfl
theorem tw290 : (Cond.initialized sq5) ∈ tables_1 := mAt 290 rfl
theorem tw291 : (Cond.methodLink sq21 41 ⟨sq5, "<init>", "(Ljava/util/List;)V"⟩) ∈ tables_1 := mAt 291 rfl
theorem tw293 : (Cond.code ⟨sq5, "<init>", "(Ljava/util/List;)V"⟩ prog_32_method_1_code 4 (Option.none : Option Jvm.ClassFile.FieldType)) ∈ tables_1 := mAt 293 rfl
theorem pd27 : parseMethodDescriptor "(Ljava/util/List;)V" = some ⟨[(.object "java/util/List")], none⟩ := by decide +kernel
theorem tw292 : (Cond.instanceMethod ⟨sq5, "<init>", "(Ljava/util/List;)V"⟩) ∈ tables_1 := mAt 292 rfl
theorem tw307 : (Cond.methodLink sq21 44 ⟨sq5, "personsTravelling", "()I"⟩) ∈ tables_1 := mAt 307 rfl
theorem tw311 : (Cond.code ⟨sq5, "personsTravelling", "()I"⟩ prog_32_method_6_code 6 (Option.some FieldType.int)) ∈ tables_1 := mAt 311 rfl
theorem tw310 : (Cond.selects sq5 ⟨sq5, "personsTravelling", "()I"⟩ ⟨sq5, "personsTravelling", "()I"⟩) ∈ tables_1 := mAt 310 rfl
theorem tw308 : (Cond.declares ⟨sq5, "personsTravelling", "()I"⟩) ∈ tables_1 := mAt 308 rfl
theorem tw309 : (Cond.instanceMethod ⟨sq5, "personsTravelling", "()I"⟩) ∈ tables_1 := mAt 309 rfl
theorem tw312 : (Cond.castable sq9 sq1) ∈ tables_1 := mAt 312 rfl
theorem ef0 (m : MethodId) (x0 : Int32) (x1 : Int32) (x2 : Int32) (x3 : Int32) : entryFrame m #[(.int x0), (.int x1), (.int x2), (.int x3)] maxLocals = mkF m 0 #[SI x0, SI x1, SI x2, SI x3, .unset, .unset, .unset, .unset, .unset, .unset, .unset, .unset, .unset, .unset, .unset, .unset, .unset, .unset, .unset, .unset, .unset, .unset, .unset, .unset, .unset, .unset] [] := by first | (simp [entryFrame, mkF, argsToLocals, Value.category, maxLocals]; done) | rfl
def Q0 (Z : State) (p0 : Int32) (p1 : Int32) (p2 : Int32) (p3 : Int32) (wd : Addr) (kd : ClassId) (wm : Addr) (we : Addr) (wl : Addr) (wle : Addr) (kle : ClassId) (wo : Addr) (h0 : Heap) (n0 : Nat) (v : Option Value) (h : Heap) (L : List Loc) : Prop := v = some (.int 1) ∧ Fr n0 L ∧ Keep h0 h []
theorem pn504 : plainName "com/example/count_calibrated_demand/countcalibrateddemand/LegTimesPersonsTravellingPinLaw" = true := by first | (simp [plainName, overriddenIn]; done) | decide +kernel
theorem rm0 (l : Launch) (Z : State) (a0 : Array Value) (hw : ∀ d ∈ tables_1, d.before a0 Z = true) (ws : List Jvm.Cond) (p0 : Int32) (p1 : Int32) (p2 : Int32) (p3 : Int32) (wd : Addr) (kd : ClassId) (wm : Addr) (we : Addr) (wl : Addr) (wle : Addr) (kle : ClassId) (wo : Addr) (h0 : Heap) (n0 : Nat) (O0 : Old Z n0 h0) (S_DE : Sta Z Z.heap sq0 sq30 sq2 (.ref wd)) (E_wd : Exa Z Z.heap wd sq2) (V_wd : Arv Z Z.heap wd kd (.object sq1) (0 : Int32) [] .null) (M_AO : MirM Z sq2 wm) (S_EM : Sta Z Z.heap sq14 "EMPTY" sq12 (.ref we)) (E_we : Exa Z Z.heap we sq1) (S_EL : Sta Z Z.heap sq14 "EMPTY_LIST" sq36 (.ref wl)) (E_wl : Exa Z Z.heap wl sq7) (F_wl : Fld Z Z.heap wl sq7 "elements" sq2 (.ref wle)) (V_wle : Arv Z Z.heap wle kle (.object sq1) (0 : Int32) [] .null) (S_OD : Sta Z Z.heap sq15 "EMPTY" sq22 (.ref wo)) :
    MetW l Z ws x code maxLocals ret room_1 #[(.int p0), (.int p1), (.int p2), (.int p3)] h0 (Q0 Z p0 p1 p2 p3 wd kd wm we wl wle kle wo h0 n0) := by
  refine MetW.enter (L0 := #[SI p0, SI p1, SI p2, SI p3, .unset, .unset, .unset, .unset, .unset, .unset, .unset, .unset, .unset, .unset, .unset, .unset, .unset, .unset, .unset, .unset, .unset, .unset, .unset, .unset, .unset, .unset]) (plainFor_of_name pn504) (fun m => ef0 m p0 p1 p2 p3) ?_
  intro p e s m below meth c s₁ hx hby hml hown hnm hret hlk hZ X0 e0
  have N0 := Fr.nil n0
  have Z0 := own_z0 O0
  have K0 : Keep h0 h0 [] := Keep.refl h0 _
  have hSi : s.Since s.vm 0 := (State.WarmedH.refl s).since 0
  have wS : ∀ a ∈ Bundle.stringAtoms, a.before a0 Z = true := own_wS hw
  refine GoW.st (t' := s₁.setTop (mkF m 29 #[SI p0, SI p1, SI p2, SI p3, SI (p0 &&& (3 : Int32)), SI ((p1 &&& (2147483647 : Int32)) % (3 : Int32)), SI ((p2 &&& (2147483647 : Int32)) % (3 : Int32)), SI ((p3 &&& (2147483647 : Int32)) % (3 : Int32)), .unset, .unset, .unset, .unset, .unset, .unset, .unset, .unset, .unset, .unset, .unset, .unset, .unset, .unset, .unset, .unset, .unset, .unset] [])) (fun target kt => ?_) ?_
  · refine XS.iloadN X0.here hx rfl (hb hby at_0) rfl ?_
    refine XS.iconst X0.here hx rfl (hb hby at_1) ?_
    refine XS.iand X0.here hx rfl (hb hby at_2) rfl ?_
    refine XS.istore X0.here hx rfl (hb hby at_3) rfl (l' := #[SI p0, SI p1, SI p2, SI p3, SI (p0 &&& (3 : Int32)), .unset, .unset, .unset, .unset, .unset, .unset, .unset, .unset, .unset, .unset, .unset, .unset, .unset, .unset, .unset, .unset, .unset, .unset, .unset, .unset, .unset]) rfl ?_
    refine XS.iloadN X0.here hx rfl (hb hby at_5) rfl ?_
    refine X0.ldcInt hx hown (mvT hZ (hw _ tw0)) (g := (mkF m 6 #[SI p0, SI p1, SI p2, SI p3, SI (p0 &&& (3 : Int32)), .unset, .unset, .unset, .unset, .unset, .unset, .unset, .unset, .unset, .unset, .unset, .unset, .unset, .unset, .unset, .unset, .unset, .unset, .unset, .unset, .unset] [(.int p1)])) rfl (hb hby at_6) _ ?_
    refine XS.iand X0.here hx rfl (hb hby at_8) rfl ?_
    refine XS.iconst X0.here hx rfl (hb hby at_9) ?_
    refine iremM X0 hx rfl (hb hby at_10) rfl (by decide) ?_
    refine XS.istore X0.here hx rfl (hb hby at_11) rfl (l' := #[SI p0, SI p1, SI p2, SI p3, SI (p0 &&& (3 : Int32)), SI ((p1 &&& (2147483647 : Int32)) % (3 : Int32)), .unset, .unset, .unset, .unset, .unset, .unset, .unset, .unset, .unset, .unset, .unset, .unset, .unset, .unset, .unset, .unset, .unset, .unset, .unset, .unset]) rfl ?_
    refine XS.iloadN X0.here hx rfl (hb hby at_13) rfl ?_
    refine X0.ldcInt hx hown (mvT hZ (hw _ tw0)) (g := (mkF m 14 #[SI p0, SI p1, SI p2, SI p3, SI (p0 &&& (3 : Int32)), SI ((p1 &&& (2147483647 : Int32)) % (3 : Int32)), .unset, .unset, .unset, .unset, .unset, .unset, .unset, .unset, .unset, .unset, .unset, .unset, .unset, .unset, .unset, .unset, .unset, .unset, .unset, .unset] [(.int p2)])) rfl (hb hby at_14) _ ?_
    refine XS.iand X0.here hx rfl (hb hby at_16) rfl ?_
    refine XS.iconst X0.here hx rfl (hb hby at_17) ?_
    refine iremM X0 hx rfl (hb hby at_18) rfl (by decide) ?_
    refine XS.istore X0.here hx rfl (hb hby at_19) rfl (l' := #[SI p0, SI p1, SI p2, SI p3, SI (p0 &&& (3 : Int32)), SI ((p1 &&& (2147483647 : Int32)) % (3 : Int32)), SI ((p2 &&& (2147483647 : Int32)) % (3 : Int32)), .unset, .unset, .unset, .unset, .unset, .unset, .unset, .unset, .unset, .unset, .unset, .unset, .unset, .unset, .unset, .unset, .unset, .unset, .unset]) rfl ?_
    refine XS.iloadN X0.here hx rfl (hb hby at_21) rfl ?_
    refine X0.ldcInt hx hown (mvT hZ (hw _ tw0)) (g := (mkF m 22 #[SI p0, SI p1, SI p2, SI p3, SI (p0 &&& (3 : Int32)), SI ((p1 &&& (2147483647 : Int32)) % (3 : Int32)), SI ((p2 &&& (2147483647 : Int32)) % (3 : Int32)), .unset, .unset, .unset, .unset, .unset, .unset, .unset, .unset, .unset, .unset, .unset, .unset, .unset, .unset, .unset, .unset, .unset, .unset, .unset] [(.int p3)])) rfl (hb hby at_22) _ ?_
    refine XS.iand X0.here hx rfl (hb hby at_24) rfl ?_
    refine XS.iconst X0.here hx rfl (hb hby at_25) ?_
    refine iremM X0 hx rfl (hb hby at_26) rfl (by decide) ?_
    refine XS.istore X0.here hx rfl (hb hby at_27) rfl (l' := #[SI p0, SI p1, SI p2, SI p3, SI (p0 &&& (3 : Int32)), SI ((p1 &&& (2147483647 : Int32)) % (3 : Int32)), SI ((p2 &&& (2147483647 : Int32)) % (3 : Int32)), SI ((p3 &&& (2147483647 : Int32)) % (3 : Int32)), .unset, .unset, .unset, .unset, .unset, .unset, .unset, .unset, .unset, .unset, .unset, .unset, .unset, .unset, .unset, .unset, .unset, .unset]) rfl ?_
    exact kt
  obtain ⟨ka, h_ka⟩ : ∃ z, z = ((p1 &&& (2147483647 : Int32)) % (3 : Int32)) := ⟨_, rfl⟩
  show GoW _ _ _ _ _ _ _ (s₁.setTop (mkF m 29 #[SI p0, SI p1, SI p2, SI p3, SI (p0 &&& (3 : Int32)), SI ((p1 &&& (2147483647 : Int32)) % (3 : Int32)), SI ((p2 &&& (2147483647 : Int32)) % (3 : Int32)), SI ((p3 &&& (2147483647 : Int32)) % (3 : Int32)), .unset, .unset, .unset, .unset, .unset, .unset, .unset, .unset, .unset, .unset, .unset, .unset, .unset, .unset, .unset, .unset, .unset, .unset] []))
  rw [← h_ka]
  show GoW _ _ _ _ _ _ _ (s₁.setTop (mkF m 29 _ []))
  have hr_ka : ¬ ka < 0 ∧ ka < (3 : Int32) := by rw [h_ka]; exact own_rem _
  have hr0_ka := hr_ka.1
  have hr2_ka := hr_ka.2
  obtain ⟨kb, h_kb⟩ : ∃ z, z = ((p2 &&& (2147483647 : Int32)) % (3 : Int32)) := ⟨_, rfl⟩
  show GoW _ _ _ _ _ _ _ (s₁.setTop (mkF m 29 #[SI p0, SI p1, SI p2, SI p3, SI (p0 &&& (3 : Int32)), SI ka, SI ((p2 &&& (2147483647 : Int32)) % (3 : Int32)), SI ((p3 &&& (2147483647 : Int32)) % (3 : Int32)), .unset, .unset, .unset, .unset, .unset, .unset, .unset, .unset, .unset, .unset, .unset, .unset, .unset, .unset, .unset, .unset, .unset, .unset] []))
  rw [← h_kb]
  show GoW _ _ _ _ _ _ _ (s₁.setTop (mkF m 29 _ []))
  have hr_kb : ¬ kb < 0 ∧ kb < (3 : Int32) := by rw [h_kb]; exact own_rem _
  have hr0_kb := hr_kb.1
  have hr2_kb := hr_kb.2
  obtain ⟨kc, h_kc⟩ : ∃ z, z = ((p3 &&& (2147483647 : Int32)) % (3 : Int32)) := ⟨_, rfl⟩
  show GoW _ _ _ _ _ _ _ (s₁.setTop (mkF m 29 #[SI p0, SI p1, SI p2, SI p3, SI (p0 &&& (3 : Int32)), SI ka, SI kb, SI ((p3 &&& (2147483647 : Int32)) % (3 : Int32)), .unset, .unset, .unset, .unset, .unset, .unset, .unset, .unset, .unset, .unset, .unset, .unset, .unset, .unset, .unset, .unset, .unset, .unset] []))
  rw [← h_kc]
  show GoW _ _ _ _ _ _ _ (s₁.setTop (mkF m 29 _ []))
  have hr_kc : ¬ kc < 0 ∧ kc < (3 : Int32) := by rw [h_kc]; exact own_rem _
  have hr0_kc := hr_kc.1
  have hr2_kc := hr_kc.2
  obtain ⟨T10, h10, X10, e10, E10, A10, D10, -, st10⟩ := newO X0 hx hZ hown (hw _ tw1) (hw _ tw2) (hw _ tw3) e0 (g := (mkF m 29 #[SI p0, SI p1, SI p2, SI p3, SI (p0 &&& (3 : Int32)), SI ka, SI kb, SI kc, .unset, .unset, .unset, .unset, .unset, .unset, .unset, .unset, .unset, .unset, .unset, .unset, .unset, .unset, .unset, .unset, .unset, .unset] [])) rfl (hb hby at_29) (by decide) (by decide)
  obtain ⟨b10, g10⟩ : ∃ z, z = h0.size := ⟨_, rfl⟩
  rw [← g10] at A10 D10 st10
  have lb11 : h0.size ≤ b10 := Nat.le_of_eq g10.symm
  have sz12 : h0.size ≤ b10 := Nat.le_trans K0.1 lb11
  have g13 : n0 ≤ b10 := Nat.le_trans Z0 sz12
  have K14 := K0.ext E10
  have O15 := O0.ext E10
  have F16 : Fld Z h10 b10 sq8 "type" sq23 .null := D10 (Or.inr (hw _ tw27)) (ty := (.object sq17)) (by decide)
  have F17 : Fld Z h10 b10 sq8 "link" "I" (.int 0) := D10 (Or.inr (hw _ tw29)) (ty := .int) (by decide)
  have F18 : Fld Z h10 b10 sq8 "endTime" "I" (.int 0) := D10 (Or.inr (hw _ tw31)) (ty := .int) (by decide)
  have F19 : Fld Z h10 b10 sq8 "maxDuration" "I" (.int 0) := D10 (Or.inr (hw _ tw33)) (ty := .int) (by decide)
  have F20 : Fld Z h10 b10 sq8 "coordinates" sq40 .null := D10 (Or.inr (hw _ tw35)) (ty := (.object sq33)) (by decide)
  refine GoW.st st10 ?_
  refine GoW.st (t' := T10.setTop (mkF m 33 #[SI p0, SI p1, SI p2, SI p3, SI (p0 &&& (3 : Int32)), SI ka, SI kb, SI kc, .unset, .unset, .unset, .unset, .unset, .unset, .unset, .unset, .unset, .unset, .unset, .unset, .unset, .unset, .unset, .unset, .unset, .unset] [(.ref b10), (.ref b10)])) (fun target kt => ?_) ?_
  · refine XS.dup X10.here hx rfl (hb hby at_32) rfl rfl ?_
    exact kt
  obtain ⟨b21, T21, h21, k21, X21, e21, E21, hSi, hk21, hZ, hown, st21⟩ := ldcS X10 hx hZ hown (hw _ tw4) wS e10 hSi (Nat.le_trans (Nat.zero_le _) E10.1) (g := (mkF m 33 #[SI p0, SI p1, SI p2, SI p3, SI (p0 &&& (3 : Int32)), SI ka, SI kb, SI kc, .unset, .unset, .unset, .unset, .unset, .unset, .unset, .unset, .unset, .unset, .unset, .unset, .unset, .unset, .unset, .unset, .unset, .unset] [(.ref b10), (.ref b10)])) rfl (hb hby at_33) (n := 4) (by decide) (by decide) (by decide) (by decide)
  have K22 := K14.ext E21
  have O23 := O15.ext E21
  refine GoW.st st21 ?_
  refine GoW.st (t' := T21.setTop (mkF m 38 #[SI p0, SI p1, SI p2, SI p3, SI (p0 &&& (3 : Int32)), SI ka, SI kb, SI kc, .unset, .unset, .unset, .unset, .unset, .unset, .unset, .unset, .unset, .unset, .unset, .unset, .unset, .unset, .unset, .unset, .unset, .unset] [(.int (-1)), (.int 0), (.int 0), (.ref b21), (.ref b10), (.ref b10)])) (fun target kt => ?_) ?_
  · refine XS.iconst X21.here hx rfl (hb hby at_35) ?_
    refine XS.iconst X21.here hx rfl (hb hby at_36) ?_
    refine XS.iconst X21.here hx rfl (hb hby at_37) ?_
    exact kt
  have c24 := A10.ext E21
  have c25 := F16.ext E21
  have c26 := F17.ext E21
  have c27 := F18.ext E21
  have c28 := F19.ext E21
  have c29 := F20.ext E21
  refine GoW.cps (own_ci (W := 1) (b := b10) (argsL := [(.ref b21), (.int 0), (.int 0), (.int (-1))]) (rest := [(.ref b10)]) X21 hx hZ hown rfl (hw _ tw12) (hw _ tw13) (hw _ tw14) (hw _ tw3) (by decide) e21 (rm1 l Z a0 hw [] b10 b21 (0 : Int32) (0 : Int32) (-1 : Int32) h21 n0 O23  c24 g13 c25 c26 c27 c28 c29) rfl (by rw [hml]; rfl) (lenOf pd22 rfl) rfl (Nat.le_of_eq rfl) (hb hby at_38) rfl (by decide)) ?_
  rintro T30 _ L30 X30 ⟨rfl, Nq30, Kq30, q31, q32⟩
  have N30 := Fr.app N0 Nq30
  have K33 := K22.trans Kq30 (allS (Or.inr sz12) all0)
  have O34 := O23.keep Kq30 (allS g13 all0)
  refine GoW.st (t' := T30.setTop (mkF m 43 #[SI p0, SI p1, SI p2, SI p3, SI (p0 &&& (3 : Int32)), SI ka, SI kb, SI kc, SR b10, .unset, .unset, .unset, .unset, .unset, .unset, .unset, .unset, .unset, .unset, .unset, .unset, .unset, .unset, .unset, .unset, .unset] [])) (fun target kt => ?_) ?_
  · refine XS.astore X30.here hx rfl (hb hby at_41) rfl rfl (l' := #[SI p0, SI p1, SI p2, SI p3, SI (p0 &&& (3 : Int32)), SI ka, SI kb, SI kc, SR b10, .unset, .unset, .unset, .unset, .unset, .unset, .unset, .unset, .unset, .unset, .unset, .unset, .unset, .unset, .unset, .unset, .unset]) rfl ?_
    exact kt
  obtain ⟨T35, h35, X35, e35, E35, A35, D35, -, st35⟩ := newO X30 hx hZ hown (hw _ tw36) (hw _ tw37) (hw _ tw38) rfl (g := (mkF m 43 #[SI p0, SI p1, SI p2, SI p3, SI (p0 &&& (3 : Int32)), SI ka, SI kb, SI kc, SR b10, .unset, .unset, .unset, .unset, .unset, .unset, .unset, .unset, .unset, .unset, .unset, .unset, .unset, .unset, .unset, .unset, .unset] [])) rfl (hb hby at_43) (by decide) (by decide)
  obtain ⟨b35, g35⟩ : ∃ z, z = T30.heap.size := ⟨_, rfl⟩
  rw [← g35] at A35 D35 st35
  have lb36 : T30.heap.size ≤ b35 := Nat.le_of_eq g35.symm
  have sz37 : h0.size ≤ b35 := Nat.le_trans K33.1 lb36
  have g38 : n0 ≤ b35 := Nat.le_trans Z0 sz37
  have K39 := K33.ext E35
  have O40 := O34.ext E35
  have F41 : Fld Z h35 b35 sq18 "route" "[I" .null := D35 (Or.inl (hw _ tw44)) (ty := (.array .int)) (by decide)
  refine GoW.st st35 ?_
  refine GoW.st (t' := T35.setTop (mkF m 48 #[SI p0, SI p1, SI p2, SI p3, SI (p0 &&& (3 : Int32)), SI ka, SI kb, SI kc, SR b10, .unset, .unset, .unset, .unset, .unset, .unset, .unset, .unset, .unset, .unset, .unset, .unset, .unset, .unset, .unset, .unset, .unset] [.null, (.ref b35), (.ref b35)])) (fun target kt => ?_) ?_
  · refine XS.dup X35.here hx rfl (hb hby at_46) rfl rfl ?_
    refine XS.aconstNull X35.here hx rfl (hb hby at_47) ?_
    exact kt
  refine GoW.cps (own_ci (W := 1) (b := b35) (argsL := [.null]) (rest := [(.ref b35)]) X35 hx hZ hown rfl (hw _ tw39) (hw _ tw40) (hw _ tw41) (hw _ tw38) (by decide) e35 (rm5 l Z a0 hw [] b35 h35 n0 O40  A35 g38 F41) rfl (by rw [hml]; rfl) (lenOf pd23 rfl) rfl (Nat.le_of_eq rfl) (hb hby at_48) rfl (by decide)) ?_
  rintro T42 _ L42 X42 ⟨rfl, Nq42, Kq42, q43⟩
  have N42 := Fr.app N30 Nq42
  have K44 := K39.trans Kq42 (allS (Or.inr sz37) all0)
  have O45 := O40.keep Kq42 (allS g38 all0)
  refine GoW.st (t' := T42.setTop (mkF m 53 #[SI p0, SI p1, SI p2, SI p3, SI (p0 &&& (3 : Int32)), SI ka, SI kb, SI kc, SR b10, SR b35, .unset, .unset, .unset, .unset, .unset, .unset, .unset, .unset, .unset, .unset, .unset, .unset, .unset, .unset, .unset, .unset] [])) (fun target kt => ?_) ?_
  · refine XS.astore X42.here hx rfl (hb hby at_51) rfl rfl (l' := #[SI p0, SI p1, SI p2, SI p3, SI (p0 &&& (3 : Int32)), SI ka, SI kb, SI kc, SR b10, SR b35, .unset, .unset, .unset, .unset, .unset, .unset, .unset, .unset, .unset, .unset, .unset, .unset, .unset, .unset, .unset, .unset]) rfl ?_
    exact kt
  obtain ⟨T46, h46, X46, e46, E46, A46, D46, -, st46⟩ := newO X42 hx hZ hown (hw _ tw45) (hw _ tw46) (hw _ tw47) rfl (g := (mkF m 53 #[SI p0, SI p1, SI p2, SI p3, SI (p0 &&& (3 : Int32)), SI ka, SI kb, SI kc, SR b10, SR b35, .unset, .unset, .unset, .unset, .unset, .unset, .unset, .unset, .unset, .unset, .unset, .unset, .unset, .unset, .unset, .unset] [])) rfl (hb hby at_53) (by decide) (by decide)
  obtain ⟨b46, g46⟩ : ∃ z, z = T42.heap.size := ⟨_, rfl⟩
  rw [← g46] at A46 D46 st46
  have lb47 : T42.heap.size ≤ b46 := Nat.le_of_eq g46.symm
  have sz48 : h0.size ≤ b46 := Nat.le_trans K44.1 lb47
  have g49 : n0 ≤ b46 := Nat.le_trans Z0 sz48
  have K50 := K44.ext E46
  have O51 := O45.ext E46
  have F52 : Fld Z h46 b46 sq13 "modCount" "I" (.int 0) := D46 (Or.inl (hw _ tw65)) (ty := .int) (by decide)
  have F53 : Fld Z h46 b46 sq0 sq10 sq2 .null := D46 (Or.inl (hw _ tw68)) (ty := (.array (.object sq1))) (by decide)
  have F54 : Fld Z h46 b46 sq0 "size" "I" (.int 0) := D46 (Or.inl (hw _ tw77)) (ty := .int) (by decide)
  refine GoW.st st46 ?_
  refine GoW.st (t' := T46.setTop (mkF m 57 #[SI p0, SI p1, SI p2, SI p3, SI (p0 &&& (3 : Int32)), SI ka, SI kb, SI kc, SR b10, SR b35, .unset, .unset, .unset, .unset, .unset, .unset, .unset, .unset, .unset, .unset, .unset, .unset, .unset, .unset, .unset, .unset] [(.ref b46), (.ref b46)])) (fun target kt => ?_) ?_
  · refine XS.dup X46.here hx rfl (hb hby at_56) rfl rfl ?_
    exact kt
  refine GoW.cps (own_ci (W := 1) (b := b46) (argsL := []) (rest := [(.ref b46)]) X46 hx hZ hown rfl (hw _ tw48) (hw _ tw49) (hw _ tw50) (hw _ tw47) (by decide) e46 (rm6 l Z a0 hw [] b46 wd kd h46 n0 O51 S_DE E_wd V_wd A46 g49 F53 F54 F52) rfl (by rw [hml]; rfl) (lenOf pd0 rfl) rfl (Nat.le_of_eq rfl) (hb hby at_57) rfl (by decide)) ?_
  rintro T55 _ L55 X55 ⟨rfl, Nq55, Kq55, q56, q57, q58, q59⟩
  have N55 := Fr.app N42 Nq55
  have K60 := K50.trans Kq55 (allS (Or.inr sz48) all0)
  have O61 := O51.keep Kq55 (allS g49 all0)
  refine GoW.st (t' := T55.setTop (mkF m 66 #[SI p0, SI p1, SI p2, SI p3, SI (p0 &&& (3 : Int32)), SI ka, SI kb, SI kc, SR b10, SR b35, SR b46, .unset, .unset, .unset, .unset, .unset, .unset, .unset, .unset, .unset, .unset, .unset, .unset, .unset, .unset, .unset] [(.ref b10), (.ref b46)])) (fun target kt => ?_) ?_
  · refine XS.astore X55.here hx rfl (hb hby at_60) rfl rfl (l' := #[SI p0, SI p1, SI p2, SI p3, SI (p0 &&& (3 : Int32)), SI ka, SI kb, SI kc, SR b10, SR b35, SR b46, .unset, .unset, .unset, .unset, .unset, .unset, .unset, .unset, .unset, .unset, .unset, .unset, .unset, .unset, .unset]) rfl ?_
    refine XS.aload X55.here hx rfl (hb hby at_62) rfl rfl ?_
    refine XS.aload X55.here hx rfl (hb hby at_64) rfl rfl ?_
    exact kt
  have S_62 := (((Keep.refl T30.heap []).ext E35).trans Kq42 (allS (Or.inr lb36) all0)).ext E46
  have S_63 : Keep T30.heap T55.heap [] := (S_62.trans Kq55 (allS (Or.inr (Nat.le_trans (Nat.le_trans E35.1 Kq42.1) lb47)) all0))
  have c64 := q31.keep S_63
  refine GoW.cps (own_cw (W := 0) (b := b46) (argsL := [(.ref b10)]) (rest := []) X55 hx hZ hown (hw _ tw69) (hw _ tw70) (hw _ tw72) (hw _ tw71) (hw _ tw73) (hw _ tw47) (by decide) rfl q56 (rm9_0 l Z a0 hw [] b46 b10 wd kd (0 : Int32) T55.heap n0 O61 S_DE E_wd V_wd q56 q57 q58 q59 g49 (Ins.of_exa c64 (hw _ tw99))) rfl (by rw [hml]; rfl) (lenOf pd24 rfl) rfl (Nat.le_of_eq rfl) (hb hby at_66) rfl (by decide)) ?_
  rintro T65 _ L65 X65 ⟨b66, k67, rfl, Nq65, Kq65, q68, q69, q70, q71, q72, q73, q74, q75⟩
  have N65 := Fr.app N55 Nq65
  have sz76 : h0.size ≤ b66 := Nat.le_trans K60.1 q68
  have g77 : n0 ≤ b66 := Nat.le_trans Z0 sz76
  have K78 := K60.trans Kq65 (allS (Or.inr sz48) all0)
  have O79 := O61.keep Kq65 (allS g49 all0)
  refine GoW.st (t' := T65.setTop (mkF m 70 #[SI p0, SI p1, SI p2, SI p3, SI (p0 &&& (3 : Int32)), SI ka, SI kb, SI kc, SR b10, SR b35, SR b46, .unset, .unset, .unset, .unset, .unset, .unset, .unset, .unset, .unset, .unset, .unset, .unset, .unset, .unset, .unset] [])) (fun target kt => ?_) ?_
  · refine XS.pop X65.here hx rfl (hb hby at_69) rfl rfl ?_
    exact kt
  obtain ⟨T80, h80, X80, e80, E80, A80, D80, -, st80⟩ := newO X65 hx hZ hown (hw _ tw45) (hw _ tw46) (hw _ tw47) rfl (g := (mkF m 70 #[SI p0, SI p1, SI p2, SI p3, SI (p0 &&& (3 : Int32)), SI ka, SI kb, SI kc, SR b10, SR b35, SR b46, .unset, .unset, .unset, .unset, .unset, .unset, .unset, .unset, .unset, .unset, .unset, .unset, .unset, .unset, .unset] [])) rfl (hb hby at_70) (by decide) (by decide)
  obtain ⟨b80, g80⟩ : ∃ z, z = T65.heap.size := ⟨_, rfl⟩
  rw [← g80] at A80 D80 st80
  have lb81 : T65.heap.size ≤ b80 := Nat.le_of_eq g80.symm
  have sz82 : h0.size ≤ b80 := Nat.le_trans K78.1 lb81
  have g83 : n0 ≤ b80 := Nat.le_trans Z0 sz82
  have K84 := K78.ext E80
  have O85 := O79.ext E80
  have F86 : Fld Z h80 b80 sq13 "modCount" "I" (.int 0) := D80 (Or.inl (hw _ tw65)) (ty := .int) (by decide)
  have F87 : Fld Z h80 b80 sq0 sq10 sq2 .null := D80 (Or.inl (hw _ tw68)) (ty := (.array (.object sq1))) (by decide)
  have F88 : Fld Z h80 b80 sq0 "size" "I" (.int 0) := D80 (Or.inl (hw _ tw77)) (ty := .int) (by decide)
  refine GoW.st st80 ?_
  refine GoW.st (t' := T80.setTop (mkF m 74 #[SI p0, SI p1, SI p2, SI p3, SI (p0 &&& (3 : Int32)), SI ka, SI kb, SI kc, SR b10, SR b35, SR b46, .unset, .unset, .unset, .unset, .unset, .unset, .unset, .unset, .unset, .unset, .unset, .unset, .unset, .unset, .unset] [(.ref b80), (.ref b80)])) (fun target kt => ?_) ?_
  · refine XS.dup X80.here hx rfl (hb hby at_73) rfl rfl ?_
    exact kt
  refine GoW.cps (own_ci (W := 1) (b := b80) (argsL := []) (rest := [(.ref b80)]) X80 hx hZ hown rfl (hw _ tw48) (hw _ tw49) (hw _ tw50) (hw _ tw47) (by decide) e80 (rm6 l Z a0 hw [] b80 wd kd h80 n0 O85 S_DE E_wd V_wd A80 g83 F87 F88 F86) rfl (by rw [hml]; rfl) (lenOf pd0 rfl) rfl (Nat.le_of_eq rfl) (hb hby at_74) rfl (by decide)) ?_
  rintro T89 _ L89 X89 ⟨rfl, Nq89, Kq89, q90, q91, q92, q93⟩
  have N89 := Fr.app N65 Nq89
  have K94 := K84.trans Kq89 (allS (Or.inr sz82) all0)
  have O95 := O85.keep Kq89 (allS g83 all0)
  refine GoW.st (t' := T89.setTop (mkF m 83 #[SI p0, SI p1, SI p2, SI p3, SI (p0 &&& (3 : Int32)), SI ka, SI kb, SI kc, SR b10, SR b35, SR b46, SR b80, .unset, .unset, .unset, .unset, .unset, .unset, .unset, .unset, .unset, .unset, .unset, .unset, .unset, .unset] [(.ref b10), (.ref b80)])) (fun target kt => ?_) ?_
  · refine XS.astore X89.here hx rfl (hb hby at_77) rfl rfl (l' := #[SI p0, SI p1, SI p2, SI p3, SI (p0 &&& (3 : Int32)), SI ka, SI kb, SI kc, SR b10, SR b35, SR b46, SR b80, .unset, .unset, .unset, .unset, .unset, .unset, .unset, .unset, .unset, .unset, .unset, .unset, .unset, .unset]) rfl ?_
    refine XS.aload X89.here hx rfl (hb hby at_79) rfl rfl ?_
    refine XS.aload X89.here hx rfl (hb hby at_81) rfl rfl ?_
    exact kt
  have S_96 : Keep T55.heap T89.heap [b46] := ((((Keep.refl T55.heap [b46]).trans Kq65 (allS (Or.inl mI0) all0)).ext E80).trans Kq89 (allS (Or.inr (Nat.le_trans Kq65.1 lb81)) all0))
  have c97 := c64.keep S_96
  refine GoW.cps (own_cw (W := 0) (b := b80) (argsL := [(.ref b10)]) (rest := []) X89 hx hZ hown (hw _ tw69) (hw _ tw70) (hw _ tw72) (hw _ tw71) (hw _ tw73) (hw _ tw47) (by decide) rfl q90 (rm9_0 l Z a0 hw [] b80 b10 wd kd (0 : Int32) T89.heap n0 O95 S_DE E_wd V_wd q90 q91 q92 q93 g83 (Ins.of_exa c97 (hw _ tw99))) rfl (by rw [hml]; rfl) (lenOf pd24 rfl) rfl (Nat.le_of_eq rfl) (hb hby at_83) rfl (by decide)) ?_
  rintro T98 _ L98 X98 ⟨b99, k100, rfl, Nq98, Kq98, q101, q102, q103, q104, q105, q106, q107, q108⟩
  have N98 := Fr.app N89 Nq98
  have sz109 : h0.size ≤ b99 := Nat.le_trans K94.1 q101
  have g110 : n0 ≤ b99 := Nat.le_trans Z0 sz109
  have K111 := K94.trans Kq98 (allS (Or.inr sz82) all0)
  have O112 := O95.keep Kq98 (allS g83 all0)
  refine GoW.st (t' := T98.setTop (mkF m 91 #[SI p0, SI p1, SI p2, SI p3, SI (p0 &&& (3 : Int32)), SI ka, SI kb, SI kc, SR b10, SR b35, SR b46, SR b80, .unset, .unset, .unset, .unset, .unset, .unset, .unset, .unset, .unset, .unset, .unset, .unset, .unset, .unset] [(.ref b10), (.ref b80)])) (fun target kt => ?_) ?_
  · refine XS.pop X98.here hx rfl (hb hby at_86) rfl rfl ?_
    refine XS.aload X98.here hx rfl (hb hby at_87) rfl rfl ?_
    refine XS.aload X98.here hx rfl (hb hby at_89) rfl rfl ?_
    exact kt
  have c113 := c97.keep Kq98
  have o114 : b80 < b99 := Nat.lt_of_lt_of_le A80.lt (Nat.le_trans Kq89.1 q101)
  have ne115 : b80 ≠ b99 := Nat.ne_of_lt o114
  refine GoW.cps (own_cw (W := 0) (b := b80) (argsL := [(.ref b10)]) (rest := []) X98 hx hZ hown (hw _ tw69) (hw _ tw70) (hw _ tw72) (hw _ tw71) (hw _ tw73) (hw _ tw47) (by decide) rfl q103 (rm9_1 l Z a0 hw [] b80 b10 b99 k100 b10 ((0 : Int32) + (1 : Int32)) T98.heap n0 O112  q103 q104 q105 q106 q107 q108 g83 g110 ne115 q102 (Ins.of_exa c113 (hw _ tw99))) rfl (by rw [hml]; rfl) (lenOf pd24 rfl) rfl (Nat.le_of_eq rfl) (hb hby at_91) rfl (by decide)) ?_
  rintro T116 _ L116 X116 ⟨rfl, Nq116, Kq116, q117, q118, q119, q120, q121, q122⟩
  have N116 := Fr.app N98 Nq116
  have K123 := K111.trans Kq116 (allS (Or.inr sz82) (allS (Or.inr sz109) all0))
  have O124 := O112.keep Kq116 (allS g83 (allS g110 all0))
  refine GoW.st (t' := T116.setTop (mkF m 95 #[SI p0, SI p1, SI p2, SI p3, SI (p0 &&& (3 : Int32)), SI ka, SI kb, SI kc, SR b10, SR b35, SR b46, SR b80, .unset, .unset, .unset, .unset, .unset, .unset, .unset, .unset, .unset, .unset, .unset, .unset, .unset, .unset] [])) (fun target kt => ?_) ?_
  · refine XS.pop X116.here hx rfl (hb hby at_94) rfl rfl ?_
    exact kt
  obtain ⟨T125, h125, X125, e125, E125, A125, D125, -, st125⟩ := newO X116 hx hZ hown (hw _ tw45) (hw _ tw46) (hw _ tw47) rfl (g := (mkF m 95 #[SI p0, SI p1, SI p2, SI p3, SI (p0 &&& (3 : Int32)), SI ka, SI kb, SI kc, SR b10, SR b35, SR b46, SR b80, .unset, .unset, .unset, .unset, .unset, .unset, .unset, .unset, .unset, .unset, .unset, .unset, .unset, .unset] [])) rfl (hb hby at_95) (by decide) (by decide)
  obtain ⟨b125, g125⟩ : ∃ z, z = T116.heap.size := ⟨_, rfl⟩
  rw [← g125] at A125 D125 st125
  have lb126 : T116.heap.size ≤ b125 := Nat.le_of_eq g125.symm
  have sz127 : h0.size ≤ b125 := Nat.le_trans K123.1 lb126
  have g128 : n0 ≤ b125 := Nat.le_trans Z0 sz127
  have K129 := K123.ext E125
  have O130 := O124.ext E125
  have F131 : Fld Z h125 b125 sq13 "modCount" "I" (.int 0) := D125 (Or.inl (hw _ tw65)) (ty := .int) (by decide)
  have F132 : Fld Z h125 b125 sq0 sq10 sq2 .null := D125 (Or.inl (hw _ tw68)) (ty := (.array (.object sq1))) (by decide)
  have F133 : Fld Z h125 b125 sq0 "size" "I" (.int 0) := D125 (Or.inl (hw _ tw77)) (ty := .int) (by decide)
  refine GoW.st st125 ?_
  refine GoW.st (t' := T125.setTop (mkF m 99 #[SI p0, SI p1, SI p2, SI p3, SI (p0 &&& (3 : Int32)), SI ka, SI kb, SI kc, SR b10, SR b35, SR b46, SR b80, .unset, .unset, .unset, .unset, .unset, .unset, .unset, .unset, .unset, .unset, .unset, .unset, .unset, .unset] [(.ref b125), (.ref b125)])) (fun target kt => ?_) ?_
  · refine XS.dup X125.here hx rfl (hb hby at_98) rfl rfl ?_
    exact kt
  refine GoW.cps (own_ci (W := 1) (b := b125) (argsL := []) (rest := [(.ref b125)]) X125 hx hZ hown rfl (hw _ tw48) (hw _ tw49) (hw _ tw50) (hw _ tw47) (by decide) e125 (rm6 l Z a0 hw [] b125 wd kd h125 n0 O130 S_DE E_wd V_wd A125 g128 F132 F133 F131) rfl (by rw [hml]; rfl) (lenOf pd0 rfl) rfl (Nat.le_of_eq rfl) (hb hby at_99) rfl (by decide)) ?_
  rintro T134 _ L134 X134 ⟨rfl, Nq134, Kq134, q135, q136, q137, q138⟩
  have N134 := Fr.app N116 Nq134
  have K139 := K129.trans Kq134 (allS (Or.inr sz127) all0)
  have O140 := O130.keep Kq134 (allS g128 all0)
  refine GoW.st (t' := T134.setTop (mkF m 108 #[SI p0, SI p1, SI p2, SI p3, SI (p0 &&& (3 : Int32)), SI ka, SI kb, SI kc, SR b10, SR b35, SR b46, SR b80, SR b125, .unset, .unset, .unset, .unset, .unset, .unset, .unset, .unset, .unset, .unset, .unset, .unset, .unset] [(.ref b10), (.ref b125)])) (fun target kt => ?_) ?_
  · refine XS.astore X134.here hx rfl (hb hby at_102) rfl rfl (l' := #[SI p0, SI p1, SI p2, SI p3, SI (p0 &&& (3 : Int32)), SI ka, SI kb, SI kc, SR b10, SR b35, SR b46, SR b80, SR b125, .unset, .unset, .unset, .unset, .unset, .unset, .unset, .unset, .unset, .unset, .unset, .unset, .unset]) rfl ?_
    refine XS.aload X134.here hx rfl (hb hby at_104) rfl rfl ?_
    refine XS.aload X134.here hx rfl (hb hby at_106) rfl rfl ?_
    exact kt
  have S_141 : Keep T98.heap T134.heap [b80, b99] := ((((Keep.refl T98.heap [b80, b99]).trans Kq116 (allS (Or.inl mI0) (allS (Or.inl mI1) all0))).ext E125).trans Kq134 (allS (Or.inr (Nat.le_trans Kq116.1 lb126)) all0))
  have c142 := c113.keep S_141
  refine GoW.cps (own_cw (W := 0) (b := b125) (argsL := [(.ref b10)]) (rest := []) X134 hx hZ hown (hw _ tw69) (hw _ tw70) (hw _ tw72) (hw _ tw71) (hw _ tw73) (hw _ tw47) (by decide) rfl q135 (rm9_0 l Z a0 hw [] b125 b10 wd kd (0 : Int32) T134.heap n0 O140 S_DE E_wd V_wd q135 q136 q137 q138 g128 (Ins.of_exa c142 (hw _ tw99))) rfl (by rw [hml]; rfl) (lenOf pd24 rfl) rfl (Nat.le_of_eq rfl) (hb hby at_108) rfl (by decide)) ?_
  rintro T143 _ L143 X143 ⟨b144, k145, rfl, Nq143, Kq143, q146, q147, q148, q149, q150, q151, q152, q153⟩
  have N143 := Fr.app N134 Nq143
  have sz154 : h0.size ≤ b144 := Nat.le_trans K139.1 q146
  have g155 : n0 ≤ b144 := Nat.le_trans Z0 sz154
  have K156 := K139.trans Kq143 (allS (Or.inr sz127) all0)
  have O157 := O140.keep Kq143 (allS g128 all0)
  refine GoW.st (t' := T143.setTop (mkF m 116 #[SI p0, SI p1, SI p2, SI p3, SI (p0 &&& (3 : Int32)), SI ka, SI kb, SI kc, SR b10, SR b35, SR b46, SR b80, SR b125, .unset, .unset, .unset, .unset, .unset, .unset, .unset, .unset, .unset, .unset, .unset, .unset, .unset] [(.ref b10), (.ref b125)])) (fun target kt => ?_) ?_
  · refine XS.pop X143.here hx rfl (hb hby at_111) rfl rfl ?_
    refine XS.aload X143.here hx rfl (hb hby at_112) rfl rfl ?_
    refine XS.aload X143.here hx rfl (hb hby at_114) rfl rfl ?_
    exact kt
  have c158 := c142.keep Kq143
  have o159 : b125 < b144 := Nat.lt_of_lt_of_le A125.lt (Nat.le_trans Kq134.1 q146)
  have ne160 : b125 ≠ b144 := Nat.ne_of_lt o159
  refine GoW.cps (own_cw (W := 0) (b := b125) (argsL := [(.ref b10)]) (rest := []) X143 hx hZ hown (hw _ tw69) (hw _ tw70) (hw _ tw72) (hw _ tw71) (hw _ tw73) (hw _ tw47) (by decide) rfl q148 (rm9_1 l Z a0 hw [] b125 b10 b144 k145 b10 ((0 : Int32) + (1 : Int32)) T143.heap n0 O157  q148 q149 q150 q151 q152 q153 g128 g155 ne160 q147 (Ins.of_exa c158 (hw _ tw99))) rfl (by rw [hml]; rfl) (lenOf pd24 rfl) rfl (Nat.le_of_eq rfl) (hb hby at_116) rfl (by decide)) ?_
  rintro T161 _ L161 X161 ⟨rfl, Nq161, Kq161, q162, q163, q164, q165, q166, q167⟩
  have N161 := Fr.app N143 Nq161
  have K168 := K156.trans Kq161 (allS (Or.inr sz127) (allS (Or.inr sz154) all0))
  have O169 := O157.keep Kq161 (allS g128 (allS g155 all0))
  refine GoW.st (t' := T161.setTop (mkF m 124 #[SI p0, SI p1, SI p2, SI p3, SI (p0 &&& (3 : Int32)), SI ka, SI kb, SI kc, SR b10, SR b35, SR b46, SR b80, SR b125, .unset, .unset, .unset, .unset, .unset, .unset, .unset, .unset, .unset, .unset, .unset, .unset, .unset] [(.ref b10), (.ref b125)])) (fun target kt => ?_) ?_
  · refine XS.pop X161.here hx rfl (hb hby at_119) rfl rfl ?_
    refine XS.aload X161.here hx rfl (hb hby at_120) rfl rfl ?_
    refine XS.aload X161.here hx rfl (hb hby at_122) rfl rfl ?_
    exact kt
  have c170 := c158.keep Kq161
  refine GoW.cps (own_cw (W := 0) (b := b125) (argsL := [(.ref b10)]) (rest := []) X161 hx hZ hown (hw _ tw69) (hw _ tw70) (hw _ tw72) (hw _ tw71) (hw _ tw73) (hw _ tw47) (by decide) rfl q162 (rm9_2 l Z a0 hw [] b125 b10 b144 k145 b10 b10 (((0 : Int32) + (1 : Int32)) + (1 : Int32)) T161.heap n0 O169  q162 q163 q164 q165 q166 q167 g128 g155 ne160 q147 (Ins.of_exa c170 (hw _ tw99))) rfl (by rw [hml]; rfl) (lenOf pd24 rfl) rfl (Nat.le_of_eq rfl) (hb hby at_124) rfl (by decide)) ?_
  rintro T171 _ L171 X171 ⟨rfl, Nq171, Kq171, q172, q173, q174, q175, q176, q177⟩
  have N171 := Fr.app N161 Nq171
  have K178 := K168.trans Kq171 (allS (Or.inr sz127) (allS (Or.inr sz154) all0))
  have O179 := O169.keep Kq171 (allS g128 (allS g155 all0))
  refine GoW.st (t' := T171.setTop (mkF m 128 #[SI p0, SI p1, SI p2, SI p3, SI (p0 &&& (3 : Int32)), SI ka, SI kb, SI kc, SR b10, SR b35, SR b46, SR b80, SR b125, .unset, .unset, .unset, .unset, .unset, .unset, .unset, .unset, .unset, .unset, .unset, .unset, .unset] [])) (fun target kt => ?_) ?_
  · refine XS.pop X171.here hx rfl (hb hby at_127) rfl rfl ?_
    exact kt
  obtain ⟨T180, h180, X180, e180, E180, A180, D180, -, st180⟩ := newO X171 hx hZ hown (hw _ tw45) (hw _ tw46) (hw _ tw47) rfl (g := (mkF m 128 #[SI p0, SI p1, SI p2, SI p3, SI (p0 &&& (3 : Int32)), SI ka, SI kb, SI kc, SR b10, SR b35, SR b46, SR b80, SR b125, .unset, .unset, .unset, .unset, .unset, .unset, .unset, .unset, .unset, .unset, .unset, .unset, .unset] [])) rfl (hb hby at_128) (by decide) (by decide)
  obtain ⟨b180, g180⟩ : ∃ z, z = T171.heap.size := ⟨_, rfl⟩
  rw [← g180] at A180 D180 st180
  have lb181 : T171.heap.size ≤ b180 := Nat.le_of_eq g180.symm
  have sz182 : h0.size ≤ b180 := Nat.le_trans K178.1 lb181
  have g183 : n0 ≤ b180 := Nat.le_trans Z0 sz182
  have K184 := K178.ext E180
  have O185 := O179.ext E180
  have F186 : Fld Z h180 b180 sq13 "modCount" "I" (.int 0) := D180 (Or.inl (hw _ tw65)) (ty := .int) (by decide)
  have F187 : Fld Z h180 b180 sq0 sq10 sq2 .null := D180 (Or.inl (hw _ tw68)) (ty := (.array (.object sq1))) (by decide)
  have F188 : Fld Z h180 b180 sq0 "size" "I" (.int 0) := D180 (Or.inl (hw _ tw77)) (ty := .int) (by decide)
  refine GoW.st st180 ?_
  refine GoW.st (t' := T180.setTop (mkF m 132 #[SI p0, SI p1, SI p2, SI p3, SI (p0 &&& (3 : Int32)), SI ka, SI kb, SI kc, SR b10, SR b35, SR b46, SR b80, SR b125, .unset, .unset, .unset, .unset, .unset, .unset, .unset, .unset, .unset, .unset, .unset, .unset, .unset] [(.ref b180), (.ref b180)])) (fun target kt => ?_) ?_
  · refine XS.dup X180.here hx rfl (hb hby at_131) rfl rfl ?_
    exact kt
  refine GoW.cps (own_ci (W := 1) (b := b180) (argsL := []) (rest := [(.ref b180)]) X180 hx hZ hown rfl (hw _ tw48) (hw _ tw49) (hw _ tw50) (hw _ tw47) (by decide) e180 (rm6 l Z a0 hw [] b180 wd kd h180 n0 O185 S_DE E_wd V_wd A180 g183 F187 F188 F186) rfl (by rw [hml]; rfl) (lenOf pd0 rfl) rfl (Nat.le_of_eq rfl) (hb hby at_132) rfl (by decide)) ?_
  rintro T189 _ L189 X189 ⟨rfl, Nq189, Kq189, q190, q191, q192, q193⟩
  have N189 := Fr.app N171 Nq189
  have K194 := K184.trans Kq189 (allS (Or.inr sz182) all0)
  have O195 := O185.keep Kq189 (allS g183 all0)
  refine GoW.st (t' := T189.setTop (mkF m 137 #[SI p0, SI p1, SI p2, SI p3, SI (p0 &&& (3 : Int32)), SI ka, SI kb, SI kc, SR b10, SR b35, SR b46, SR b80, SR b125, SR b180, .unset, .unset, .unset, .unset, .unset, .unset, .unset, .unset, .unset, .unset, .unset, .unset] [])) (fun target kt => ?_) ?_
  · refine XS.astore X189.here hx rfl (hb hby at_135) rfl rfl (l' := #[SI p0, SI p1, SI p2, SI p3, SI (p0 &&& (3 : Int32)), SI ka, SI kb, SI kc, SR b10, SR b35, SR b46, SR b80, SR b125, SR b180, .unset, .unset, .unset, .unset, .unset, .unset, .unset, .unset, .unset, .unset, .unset, .unset]) rfl ?_
    exact kt
  obtain ⟨T196, h196, X196, e196, E196, A196, D196, -, st196⟩ := newO X189 hx hZ hown (hw _ tw45) (hw _ tw46) (hw _ tw47) rfl (g := (mkF m 137 #[SI p0, SI p1, SI p2, SI p3, SI (p0 &&& (3 : Int32)), SI ka, SI kb, SI kc, SR b10, SR b35, SR b46, SR b80, SR b125, SR b180, .unset, .unset, .unset, .unset, .unset, .unset, .unset, .unset, .unset, .unset, .unset, .unset] [])) rfl (hb hby at_137) (by decide) (by decide)
  obtain ⟨b196, g196⟩ : ∃ z, z = T189.heap.size := ⟨_, rfl⟩
  rw [← g196] at A196 D196 st196
  have lb197 : T189.heap.size ≤ b196 := Nat.le_of_eq g196.symm
  have sz198 : h0.size ≤ b196 := Nat.le_trans K194.1 lb197
  have g199 : n0 ≤ b196 := Nat.le_trans Z0 sz198
  have K200 := K194.ext E196
  have O201 := O195.ext E196
  have F202 : Fld Z h196 b196 sq13 "modCount" "I" (.int 0) := D196 (Or.inl (hw _ tw65)) (ty := .int) (by decide)
  have F203 : Fld Z h196 b196 sq0 sq10 sq2 .null := D196 (Or.inl (hw _ tw68)) (ty := (.array (.object sq1))) (by decide)
  have F204 : Fld Z h196 b196 sq0 "size" "I" (.int 0) := D196 (Or.inl (hw _ tw77)) (ty := .int) (by decide)
  refine GoW.st st196 ?_
  refine GoW.st (t' := T196.setTop (mkF m 141 #[SI p0, SI p1, SI p2, SI p3, SI (p0 &&& (3 : Int32)), SI ka, SI kb, SI kc, SR b10, SR b35, SR b46, SR b80, SR b125, SR b180, .unset, .unset, .unset, .unset, .unset, .unset, .unset, .unset, .unset, .unset, .unset, .unset] [(.ref b196), (.ref b196)])) (fun target kt => ?_) ?_
  · refine XS.dup X196.here hx rfl (hb hby at_140) rfl rfl ?_
    exact kt
  refine GoW.cps (own_ci (W := 1) (b := b196) (argsL := []) (rest := [(.ref b196)]) X196 hx hZ hown rfl (hw _ tw48) (hw _ tw49) (hw _ tw50) (hw _ tw47) (by decide) e196 (rm6 l Z a0 hw [] b196 wd kd h196 n0 O201 S_DE E_wd V_wd A196 g199 F203 F204 F202) rfl (by rw [hml]; rfl) (lenOf pd0 rfl) rfl (Nat.le_of_eq rfl) (hb hby at_141) rfl (by decide)) ?_
  rintro T205 _ L205 X205 ⟨rfl, Nq205, Kq205, q206, q207, q208, q209⟩
  have N205 := Fr.app N189 Nq205
  have K210 := K200.trans Kq205 (allS (Or.inr sz198) all0)
  have O211 := O201.keep Kq205 (allS g199 all0)
  refine GoW.st (t' := T205.setTop (mkF m 150 #[SI p0, SI p1, SI p2, SI p3, SI (p0 &&& (3 : Int32)), SI ka, SI kb, SI kc, SR b10, SR b35, SR b46, SR b80, SR b125, SR b180, SR b196, .unset, .unset, .unset, .unset, .unset, .unset, .unset, .unset, .unset, .unset, .unset] [(.ref b35), (.ref b196)])) (fun target kt => ?_) ?_
  · refine XS.astore X205.here hx rfl (hb hby at_144) rfl rfl (l' := #[SI p0, SI p1, SI p2, SI p3, SI (p0 &&& (3 : Int32)), SI ka, SI kb, SI kc, SR b10, SR b35, SR b46, SR b80, SR b125, SR b180, SR b196, .unset, .unset, .unset, .unset, .unset, .unset, .unset, .unset, .unset, .unset, .unset]) rfl ?_
    refine XS.aload X205.here hx rfl (hb hby at_146) rfl rfl ?_
    refine XS.aload X205.here hx rfl (hb hby at_148) rfl rfl ?_
    exact kt
  have S_212 := ((((Keep.refl T42.heap []).ext E46).trans Kq55 (allS (Or.inr lb47) all0)).trans Kq65 (allS (Or.inr lb47) all0)).ext E80
  have S_213 := (((S_212.trans Kq89 (allS (Or.inr (Nat.le_trans (Nat.le_trans (Nat.le_trans E46.1 Kq55.1) Kq65.1) lb81)) all0)).trans Kq98 (allS (Or.inr (Nat.le_trans (Nat.le_trans (Nat.le_trans E46.1 Kq55.1) Kq65.1) lb81)) all0)).trans Kq116 (allS (Or.inr (Nat.le_trans (Nat.le_trans (Nat.le_trans E46.1 Kq55.1) Kq65.1) lb81)) (allS (Or.inr (Nat.le_trans (Nat.le_trans S_212.1 Kq89.1) q101)) all0))).ext E125
  have S_214 := ((((S_213.trans Kq134 (allS (Or.inr (Nat.le_trans (Nat.le_trans S_212.1 (Nat.le_trans (Nat.le_trans Kq89.1 Kq98.1) Kq116.1)) lb126)) all0)).trans Kq143 (allS (Or.inr (Nat.le_trans (Nat.le_trans S_212.1 (Nat.le_trans (Nat.le_trans Kq89.1 Kq98.1) Kq116.1)) lb126)) all0)).trans Kq161 (allS (Or.inr (Nat.le_trans (Nat.le_trans S_212.1 (Nat.le_trans (Nat.le_trans Kq89.1 Kq98.1) Kq116.1)) lb126)) (allS (Or.inr (Nat.le_trans (Nat.le_trans S_213.1 Kq134.1) q146)) all0))).trans Kq171 (allS (Or.inr (Nat.le_trans (Nat.le_trans S_212.1 (Nat.le_trans (Nat.le_trans Kq89.1 Kq98.1) Kq116.1)) lb126)) (allS (Or.inr (Nat.le_trans (Nat.le_trans S_213.1 Kq134.1) q146)) all0))).ext E180
  have S_215 : Keep T42.heap T205.heap [] := (((S_214.trans Kq189 (allS (Or.inr (Nat.le_trans (Nat.le_trans S_213.1 (Nat.le_trans (Nat.le_trans (Nat.le_trans Kq134.1 Kq143.1) Kq161.1) Kq171.1)) lb181)) all0)).ext E196).trans Kq205 (allS (Or.inr (Nat.le_trans (Nat.le_trans S_214.1 Kq189.1) lb197)) all0))
  have c216 := q43.keep S_215
  refine GoW.cps (own_cw (W := 0) (b := b196) (argsL := [(.ref b35)]) (rest := []) X205 hx hZ hown (hw _ tw69) (hw _ tw70) (hw _ tw72) (hw _ tw71) (hw _ tw73) (hw _ tw47) (by decide) rfl q206 (rm9_0 l Z a0 hw [] b196 b35 wd kd (0 : Int32) T205.heap n0 O211 S_DE E_wd V_wd q206 q207 q208 q209 g199 (Ins.of_exa c216 (hw _ tw100))) rfl (by rw [hml]; rfl) (lenOf pd24 rfl) rfl (Nat.le_of_eq rfl) (hb hby at_150) rfl (by decide)) ?_
  rintro T217 _ L217 X217 ⟨b218, k219, rfl, Nq217, Kq217, q220, q221, q222, q223, q224, q225, q226, q227⟩
  have N217 := Fr.app N205 Nq217
  have sz228 : h0.size ≤ b218 := Nat.le_trans K210.1 q220
  have g229 : n0 ≤ b218 := Nat.le_trans Z0 sz228
  have K230 := K210.trans Kq217 (allS (Or.inr sz198) all0)
  have O231 := O211.keep Kq217 (allS g199 all0)
  refine GoW.st (t' := T217.setTop (mkF m 154 #[SI p0, SI p1, SI p2, SI p3, SI (p0 &&& (3 : Int32)), SI ka, SI kb, SI kc, SR b10, SR b35, SR b46, SR b80, SR b125, SR b180, SR b196, .unset, .unset, .unset, .unset, .unset, .unset, .unset, .unset, .unset, .unset, .unset] [])) (fun target kt => ?_) ?_
  · refine XS.pop X217.here hx rfl (hb hby at_153) rfl rfl ?_
    exact kt
  obtain ⟨T232, h232, X232, e232, E232, A232, D232, -, st232⟩ := newO X217 hx hZ hown (hw _ tw45) (hw _ tw46) (hw _ tw47) rfl (g := (mkF m 154 #[SI p0, SI p1, SI p2, SI p3, SI (p0 &&& (3 : Int32)), SI ka, SI kb, SI kc, SR b10, SR b35, SR b46, SR b80, SR b125, SR b180, SR b196, .unset, .unset, .unset, .unset, .unset, .unset, .unset, .unset, .unset, .unset, .unset] [])) rfl (hb hby at_154) (by decide) (by decide)
  obtain ⟨b232, g232⟩ : ∃ z, z = T217.heap.size := ⟨_, rfl⟩
  rw [← g232] at A232 D232 st232
  have lb233 : T217.heap.size ≤ b232 := Nat.le_of_eq g232.symm
  have sz234 : h0.size ≤ b232 := Nat.le_trans K230.1 lb233
  have g235 : n0 ≤ b232 := Nat.le_trans Z0 sz234
  have K236 := K230.ext E232
  have O237 := O231.ext E232
  have F238 : Fld Z h232 b232 sq13 "modCount" "I" (.int 0) := D232 (Or.inl (hw _ tw65)) (ty := .int) (by decide)
  have F239 : Fld Z h232 b232 sq0 sq10 sq2 .null := D232 (Or.inl (hw _ tw68)) (ty := (.array (.object sq1))) (by decide)
  have F240 : Fld Z h232 b232 sq0 "size" "I" (.int 0) := D232 (Or.inl (hw _ tw77)) (ty := .int) (by decide)
  refine GoW.st st232 ?_
  refine GoW.st (t' := T232.setTop (mkF m 158 #[SI p0, SI p1, SI p2, SI p3, SI (p0 &&& (3 : Int32)), SI ka, SI kb, SI kc, SR b10, SR b35, SR b46, SR b80, SR b125, SR b180, SR b196, .unset, .unset, .unset, .unset, .unset, .unset, .unset, .unset, .unset, .unset, .unset] [(.ref b232), (.ref b232)])) (fun target kt => ?_) ?_
  · refine XS.dup X232.here hx rfl (hb hby at_157) rfl rfl ?_
    exact kt
  refine GoW.cps (own_ci (W := 1) (b := b232) (argsL := []) (rest := [(.ref b232)]) X232 hx hZ hown rfl (hw _ tw48) (hw _ tw49) (hw _ tw50) (hw _ tw47) (by decide) e232 (rm6 l Z a0 hw [] b232 wd kd h232 n0 O237 S_DE E_wd V_wd A232 g235 F239 F240 F238) rfl (by rw [hml]; rfl) (lenOf pd0 rfl) rfl (Nat.le_of_eq rfl) (hb hby at_158) rfl (by decide)) ?_
  rintro T241 _ L241 X241 ⟨rfl, Nq241, Kq241, q242, q243, q244, q245⟩
  have N241 := Fr.app N217 Nq241
  have K246 := K236.trans Kq241 (allS (Or.inr sz234) all0)
  have O247 := O237.keep Kq241 (allS g235 all0)
  refine GoW.st (t' := T241.setTop (mkF m 167 #[SI p0, SI p1, SI p2, SI p3, SI (p0 &&& (3 : Int32)), SI ka, SI kb, SI kc, SR b10, SR b35, SR b46, SR b80, SR b125, SR b180, SR b196, SR b232, .unset, .unset, .unset, .unset, .unset, .unset, .unset, .unset, .unset, .unset] [(.ref b35), (.ref b232)])) (fun target kt => ?_) ?_
  · refine XS.astore X241.here hx rfl (hb hby at_161) rfl rfl (l' := #[SI p0, SI p1, SI p2, SI p3, SI (p0 &&& (3 : Int32)), SI ka, SI kb, SI kc, SR b10, SR b35, SR b46, SR b80, SR b125, SR b180, SR b196, SR b232, .unset, .unset, .unset, .unset, .unset, .unset, .unset, .unset, .unset, .unset]) rfl ?_
    refine XS.aload X241.here hx rfl (hb hby at_163) rfl rfl ?_
    refine XS.aload X241.here hx rfl (hb hby at_165) rfl rfl ?_
    exact kt
  have S_248 : Keep T205.heap T241.heap [b196] := ((((Keep.refl T205.heap [b196]).trans Kq217 (allS (Or.inl mI0) all0)).ext E232).trans Kq241 (allS (Or.inr (Nat.le_trans Kq217.1 lb233)) all0))
  have c249 := c216.keep S_248
  refine GoW.cps (own_cw (W := 0) (b := b232) (argsL := [(.ref b35)]) (rest := []) X241 hx hZ hown (hw _ tw69) (hw _ tw70) (hw _ tw72) (hw _ tw71) (hw _ tw73) (hw _ tw47) (by decide) rfl q242 (rm9_0 l Z a0 hw [] b232 b35 wd kd (0 : Int32) T241.heap n0 O247 S_DE E_wd V_wd q242 q243 q244 q245 g235 (Ins.of_exa c249 (hw _ tw100))) rfl (by rw [hml]; rfl) (lenOf pd24 rfl) rfl (Nat.le_of_eq rfl) (hb hby at_167) rfl (by decide)) ?_
  rintro T250 _ L250 X250 ⟨b251, k252, rfl, Nq250, Kq250, q253, q254, q255, q256, q257, q258, q259, q260⟩
  have N250 := Fr.app N241 Nq250
  have sz261 : h0.size ≤ b251 := Nat.le_trans K246.1 q253
  have g262 : n0 ≤ b251 := Nat.le_trans Z0 sz261
  have K263 := K246.trans Kq250 (allS (Or.inr sz234) all0)
  have O264 := O247.keep Kq250 (allS g235 all0)
  refine GoW.st (t' := T250.setTop (mkF m 175 #[SI p0, SI p1, SI p2, SI p3, SI (p0 &&& (3 : Int32)), SI ka, SI kb, SI kc, SR b10, SR b35, SR b46, SR b80, SR b125, SR b180, SR b196, SR b232, .unset, .unset, .unset, .unset, .unset, .unset, .unset, .unset, .unset, .unset] [(.ref b35), (.ref b232)])) (fun target kt => ?_) ?_
  · refine XS.pop X250.here hx rfl (hb hby at_170) rfl rfl ?_
    refine XS.aload X250.here hx rfl (hb hby at_171) rfl rfl ?_
    refine XS.aload X250.here hx rfl (hb hby at_173) rfl rfl ?_
    exact kt
  have c265 := c249.keep Kq250
  have o266 : b232 < b251 := Nat.lt_of_lt_of_le A232.lt (Nat.le_trans Kq241.1 q253)
  have ne267 : b232 ≠ b251 := Nat.ne_of_lt o266
  refine GoW.cps (own_cw (W := 0) (b := b232) (argsL := [(.ref b35)]) (rest := []) X250 hx hZ hown (hw _ tw69) (hw _ tw70) (hw _ tw72) (hw _ tw71) (hw _ tw73) (hw _ tw47) (by decide) rfl q255 (rm9_1 l Z a0 hw [] b232 b35 b251 k252 b35 ((0 : Int32) + (1 : Int32)) T250.heap n0 O264  q255 q256 q257 q258 q259 q260 g235 g262 ne267 q254 (Ins.of_exa c265 (hw _ tw100))) rfl (by rw [hml]; rfl) (lenOf pd24 rfl) rfl (Nat.le_of_eq rfl) (hb hby at_175) rfl (by decide)) ?_
  rintro T268 _ L268 X268 ⟨rfl, Nq268, Kq268, q269, q270, q271, q272, q273, q274⟩
  have N268 := Fr.app N250 Nq268
  have K275 := K263.trans Kq268 (allS (Or.inr sz234) (allS (Or.inr sz261) all0))
  have O276 := O264.keep Kq268 (allS g235 (allS g262 all0))
  refine GoW.st (t' := T268.setTop (mkF m 179 #[SI p0, SI p1, SI p2, SI p3, SI (p0 &&& (3 : Int32)), SI ka, SI kb, SI kc, SR b10, SR b35, SR b46, SR b80, SR b125, SR b180, SR b196, SR b232, .unset, .unset, .unset, .unset, .unset, .unset, .unset, .unset, .unset, .unset] [])) (fun target kt => ?_) ?_
  · refine XS.pop X268.here hx rfl (hb hby at_178) rfl rfl ?_
    exact kt
  obtain ⟨T277, h277, X277, e277, E277, A277, D277, -, st277⟩ := newO X268 hx hZ hown (hw _ tw101) (hw _ tw102) (hw _ tw103) rfl (g := (mkF m 179 #[SI p0, SI p1, SI p2, SI p3, SI (p0 &&& (3 : Int32)), SI ka, SI kb, SI kc, SR b10, SR b35, SR b46, SR b80, SR b125, SR b180, SR b196, SR b232, .unset, .unset, .unset, .unset, .unset, .unset, .unset, .unset, .unset, .unset] [])) rfl (hb hby at_179) (by decide) (by decide)
  obtain ⟨b277, g277⟩ : ∃ z, z = T268.heap.size := ⟨_, rfl⟩
  rw [← g277] at A277 D277 st277
  have lb278 : T268.heap.size ≤ b277 := Nat.le_of_eq g277.symm
  have sz279 : h0.size ≤ b277 := Nat.le_trans K275.1 lb278
  have g280 : n0 ≤ b277 := Nat.le_trans Z0 sz279
  have K281 := K275.ext E277
  have O282 := O276.ext E277
  have F283 : Fld Z h277 b277 sq4 "activities" sq11 .null := D277 (Or.inr (hw _ tw208)) (ty := (.object sq3)) (by decide)
  have F284 : Fld Z h277 b277 sq4 "legs" sq11 .null := D277 (Or.inr (hw _ tw214)) (ty := (.object sq3)) (by decide)
  have F285 : Fld Z h277 b277 sq4 "score" sq22 .null := D277 (Or.inr (hw _ tw221)) (ty := (.object sq15)) (by decide)
  refine GoW.st st277 ?_
  refine GoW.st (t' := T277.setTop (mkF m 187 #[SI p0, SI p1, SI p2, SI p3, SI (p0 &&& (3 : Int32)), SI ka, SI kb, SI kc, SR b10, SR b35, SR b46, SR b80, SR b125, SR b180, SR b196, SR b232, .unset, .unset, .unset, .unset, .unset, .unset, .unset, .unset, .unset, .unset] [(.ref b180), (.ref b46), (.ref b277), (.ref b277)])) (fun target kt => ?_) ?_
  · refine XS.dup X277.here hx rfl (hb hby at_182) rfl rfl ?_
    refine XS.aload X277.here hx rfl (hb hby at_183) rfl rfl ?_
    refine XS.aload X277.here hx rfl (hb hby at_185) rfl rfl ?_
    exact kt
  have S_286 := (((Keep.refl T65.heap []).ext E80).trans Kq89 (allS (Or.inr lb81) all0)).trans Kq98 (allS (Or.inr lb81) all0)
  have S_287 := (((S_286.trans Kq116 (allS (Or.inr lb81) (allS (Or.inr (Nat.le_trans (Nat.le_trans E80.1 Kq89.1) q101)) all0))).ext E125).trans Kq134 (allS (Or.inr (Nat.le_trans (Nat.le_trans S_286.1 Kq116.1) lb126)) all0)).trans Kq143 (allS (Or.inr (Nat.le_trans (Nat.le_trans S_286.1 Kq116.1) lb126)) all0)
  have S_288 := ((S_287.trans Kq161 (allS (Or.inr (Nat.le_trans (Nat.le_trans S_286.1 Kq116.1) lb126)) (allS (Or.inr (Nat.le_trans (Nat.le_trans S_286.1 (Nat.le_trans (Nat.le_trans Kq116.1 E125.1) Kq134.1)) q146)) all0))).trans Kq171 (allS (Or.inr (Nat.le_trans (Nat.le_trans S_286.1 Kq116.1) lb126)) (allS (Or.inr (Nat.le_trans (Nat.le_trans S_286.1 (Nat.le_trans (Nat.le_trans Kq116.1 E125.1) Kq134.1)) q146)) all0))).ext E180
  have S_289 := ((((S_288.trans Kq189 (allS (Or.inr (Nat.le_trans (Nat.le_trans S_287.1 (Nat.le_trans Kq161.1 Kq171.1)) lb181)) all0)).ext E196).trans Kq205 (allS (Or.inr (Nat.le_trans (Nat.le_trans S_288.1 Kq189.1) lb197)) all0)).trans Kq217 (allS (Or.inr (Nat.le_trans (Nat.le_trans S_288.1 Kq189.1) lb197)) all0)).ext E232
  have S_290 : Keep T65.heap h277 [] := ((((S_289.trans Kq241 (allS (Or.inr (Nat.le_trans (Nat.le_trans S_288.1 (Nat.le_trans (Nat.le_trans (Nat.le_trans Kq189.1 E196.1) Kq205.1) Kq217.1)) lb233)) all0)).trans Kq250 (allS (Or.inr (Nat.le_trans (Nat.le_trans S_288.1 (Nat.le_trans (Nat.le_trans (Nat.le_trans Kq189.1 E196.1) Kq205.1) Kq217.1)) lb233)) all0)).trans Kq268 (allS (Or.inr (Nat.le_trans (Nat.le_trans S_288.1 (Nat.le_trans (Nat.le_trans (Nat.le_trans Kq189.1 E196.1) Kq205.1) Kq217.1)) lb233)) (allS (Or.inr (Nat.le_trans (Nat.le_trans S_289.1 Kq241.1) q253)) all0))).ext E277)
  have c291 := q70.keep S_290
  have c292 := q71.keep S_290 nin0
  have c293 := q72.keep S_290 nin0
  have c294 := q74.keep S_290
  have c295 := q75.keep S_290 nin0
  have S_296 := ((((Keep.refl T189.heap []).ext E196).trans Kq205 (allS (Or.inr lb197) all0)).trans Kq217 (allS (Or.inr lb197) all0)).ext E232
  have S_297 : Keep T189.heap h277 [] := ((((S_296.trans Kq241 (allS (Or.inr (Nat.le_trans (Nat.le_trans (Nat.le_trans E196.1 Kq205.1) Kq217.1) lb233)) all0)).trans Kq250 (allS (Or.inr (Nat.le_trans (Nat.le_trans (Nat.le_trans E196.1 Kq205.1) Kq217.1) lb233)) all0)).trans Kq268 (allS (Or.inr (Nat.le_trans (Nat.le_trans (Nat.le_trans E196.1 Kq205.1) Kq217.1) lb233)) (allS (Or.inr (Nat.le_trans (Nat.le_trans S_296.1 Kq241.1) q253)) all0))).ext E277)
  have c298 := q190.keep S_297
  have c299 := q191.keep S_297 nin0
  have c300 := q192.keep S_297 nin0
  have S_301 : Keep T161.heap h277 [b125, b144] := (((((Keep.refl T161.heap [b125, b144]).trans Kq171 (allS (Or.inl mI0) (allS (Or.inl mI1) all0))).ext E180).trans Kq189 (allS (Or.inr (Nat.le_trans Kq171.1 lb181)) all0)).trans S_297 all0)
  have c302 := c170.keep S_301
  have o303 : b46 < b66 := Nat.lt_of_lt_of_le A46.lt (Nat.le_trans Kq55.1 q68)
  have o304 : b66 < b80 := Nat.lt_of_lt_of_le q74.lt lb81
  have o305 : b46 < b80 := Nat.lt_trans o303 o304
  have o306 : b46 < b99 := Nat.lt_trans o305 o114
  have o307 : b99 < b125 := Nat.lt_of_lt_of_le q107.lt (Nat.le_trans Kq116.1 lb126)
  have o308 : b46 < b125 := Nat.lt_trans o306 o307
  have o309 : b46 < b144 := Nat.lt_trans o308 o159
  have o310 : b144 < b180 := Nat.lt_of_lt_of_le q152.lt (Nat.le_trans (Nat.le_trans Kq161.1 Kq171.1) lb181)
  have o311 : b46 < b180 := Nat.lt_trans o309 o310
  have o312 : b180 < b196 := Nat.lt_of_lt_of_le A180.lt (Nat.le_trans Kq189.1 lb197)
  have o313 : b46 < b196 := Nat.lt_trans o311 o312
  have o314 : b196 < b218 := Nat.lt_of_lt_of_le A196.lt (Nat.le_trans Kq205.1 q220)
  have o315 : b46 < b218 := Nat.lt_trans o313 o314
  have o316 : b218 < b232 := Nat.lt_of_lt_of_le q226.lt lb233
  have o317 : b46 < b232 := Nat.lt_trans o315 o316
  have o318 : b46 < b251 := Nat.lt_trans o317 o266
  have o319 : b251 < b277 := Nat.lt_of_lt_of_le q259.lt (Nat.le_trans Kq268.1 lb278)
  have o320 : b46 < b277 := Nat.lt_trans o318 o319
  have ne321 : b46 ≠ b277 := Nat.ne_of_lt o320
  have o322 : b180 < b218 := Nat.lt_trans o312 o314
  have o323 : b180 < b232 := Nat.lt_trans o322 o316
  have o324 : b180 < b251 := Nat.lt_trans o323 o266
  have o325 : b180 < b277 := Nat.lt_trans o324 o319
  have ne326 : b180 ≠ b277 := Nat.ne_of_lt o325
  have o327 : b66 < b99 := Nat.lt_trans o304 o114
  have o328 : b66 < b125 := Nat.lt_trans o327 o307
  have o329 : b66 < b144 := Nat.lt_trans o328 o159
  have o330 : b66 < b180 := Nat.lt_trans o329 o310
  have o331 : b66 < b196 := Nat.lt_trans o330 o312
  have o332 : b66 < b218 := Nat.lt_trans o331 o314
  have o333 : b66 < b232 := Nat.lt_trans o332 o316
  have o334 : b66 < b251 := Nat.lt_trans o333 o266
  have o335 : b66 < b277 := Nat.lt_trans o334 o319
  have ne336 : b66 ≠ b277 := Nat.ne_of_lt o335
  refine GoW.cps (own_ci (W := 1) (b := b277) (argsL := [(.ref b46), (.ref b180)]) (rest := [(.ref b277)]) X277 hx hZ hown rfl (hw _ tw104) (hw _ tw105) (hw _ tw106) (hw _ tw103) (by decide) e277 (rm14_0 l Z a0 hw [] b277 b46 b180 wm we wl wo b66 k67 b10 wd kd h277 n0 O282 M_AO S_EM S_EL S_OD S_DE E_wd V_wd A277 g280 F283 F284 F285 c291 c292 c293 c294 c295 c298 c299 c300 c302 ne321 ne326 ne336) rfl (by rw [hml]; rfl) (lenOf pd25 rfl) rfl (Nat.le_of_eq rfl) (hb hby at_187) rfl (by decide)) ?_
  rintro T337 _ L337 X337 ⟨rfl, Nq337, Kq337, q338, q339⟩
  have N337 := Fr.app N268 Nq337
  have K340 := K281.trans Kq337 (allS (Or.inr sz279) all0)
  have O341 := O282.keep Kq337 (allS g280 all0)
  refine GoW.st (t' := T337.setTop (mkF m 192 #[SI p0, SI p1, SI p2, SI p3, SI (p0 &&& (3 : Int32)), SI ka, SI kb, SI kc, SR b10, SR b35, SR b46, SR b80, SR b125, SR b180, SR b196, SR b232, SR b277, .unset, .unset, .unset, .unset, .unset, .unset, .unset, .unset, .unset] [])) (fun target kt => ?_) ?_
  · refine XS.astore X337.here hx rfl (hb hby at_190) rfl rfl (l' := #[SI p0, SI p1, SI p2, SI p3, SI (p0 &&& (3 : Int32)), SI ka, SI kb, SI kc, SR b10, SR b35, SR b46, SR b80, SR b125, SR b180, SR b196, SR b232, SR b277, .unset, .unset, .unset, .unset, .unset, .unset, .unset, .unset, .unset]) rfl ?_
    exact kt
  obtain ⟨T342, h342, X342, e342, E342, A342, D342, -, st342⟩ := newO X337 hx hZ hown (hw _ tw101) (hw _ tw102) (hw _ tw103) rfl (g := (mkF m 192 #[SI p0, SI p1, SI p2, SI p3, SI (p0 &&& (3 : Int32)), SI ka, SI kb, SI kc, SR b10, SR b35, SR b46, SR b80, SR b125, SR b180, SR b196, SR b232, SR b277, .unset, .unset, .unset, .unset, .unset, .unset, .unset, .unset, .unset] [])) rfl (hb hby at_192) (by decide) (by decide)
  obtain ⟨b342, g342⟩ : ∃ z, z = T337.heap.size := ⟨_, rfl⟩
  rw [← g342] at A342 D342 st342
  have lb343 : T337.heap.size ≤ b342 := Nat.le_of_eq g342.symm
  have sz344 : h0.size ≤ b342 := Nat.le_trans K340.1 lb343
  have g345 : n0 ≤ b342 := Nat.le_trans Z0 sz344
  have K346 := K340.ext E342
  have O347 := O341.ext E342
  have F348 : Fld Z h342 b342 sq4 "activities" sq11 .null := D342 (Or.inr (hw _ tw208)) (ty := (.object sq3)) (by decide)
  have F349 : Fld Z h342 b342 sq4 "legs" sq11 .null := D342 (Or.inr (hw _ tw214)) (ty := (.object sq3)) (by decide)
  have F350 : Fld Z h342 b342 sq4 "score" sq22 .null := D342 (Or.inr (hw _ tw221)) (ty := (.object sq15)) (by decide)
  refine GoW.st st342 ?_
  refine GoW.st (t' := T342.setTop (mkF m 200 #[SI p0, SI p1, SI p2, SI p3, SI (p0 &&& (3 : Int32)), SI ka, SI kb, SI kc, SR b10, SR b35, SR b46, SR b80, SR b125, SR b180, SR b196, SR b232, SR b277, .unset, .unset, .unset, .unset, .unset, .unset, .unset, .unset, .unset] [(.ref b196), (.ref b80), (.ref b342), (.ref b342)])) (fun target kt => ?_) ?_
  · refine XS.dup X342.here hx rfl (hb hby at_195) rfl rfl ?_
    refine XS.aload X342.here hx rfl (hb hby at_196) rfl rfl ?_
    refine XS.aload X342.here hx rfl (hb hby at_198) rfl rfl ?_
    exact kt
  have S_351 := (((Keep.refl T116.heap []).ext E125).trans Kq134 (allS (Or.inr lb126) all0)).trans Kq143 (allS (Or.inr lb126) all0)
  have S_352 := ((S_351.trans Kq161 (allS (Or.inr lb126) (allS (Or.inr (Nat.le_trans (Nat.le_trans E125.1 Kq134.1) q146)) all0))).trans Kq171 (allS (Or.inr lb126) (allS (Or.inr (Nat.le_trans (Nat.le_trans E125.1 Kq134.1) q146)) all0))).ext E180
  have S_353 := ((((S_352.trans Kq189 (allS (Or.inr (Nat.le_trans (Nat.le_trans S_351.1 (Nat.le_trans Kq161.1 Kq171.1)) lb181)) all0)).ext E196).trans Kq205 (allS (Or.inr (Nat.le_trans (Nat.le_trans S_352.1 Kq189.1) lb197)) all0)).trans Kq217 (allS (Or.inr (Nat.le_trans (Nat.le_trans S_352.1 Kq189.1) lb197)) all0)).ext E232
  have S_354 := (((S_353.trans Kq241 (allS (Or.inr (Nat.le_trans (Nat.le_trans S_352.1 (Nat.le_trans (Nat.le_trans (Nat.le_trans Kq189.1 E196.1) Kq205.1) Kq217.1)) lb233)) all0)).trans Kq250 (allS (Or.inr (Nat.le_trans (Nat.le_trans S_352.1 (Nat.le_trans (Nat.le_trans (Nat.le_trans Kq189.1 E196.1) Kq205.1) Kq217.1)) lb233)) all0)).trans Kq268 (allS (Or.inr (Nat.le_trans (Nat.le_trans S_352.1 (Nat.le_trans (Nat.le_trans (Nat.le_trans Kq189.1 E196.1) Kq205.1) Kq217.1)) lb233)) (allS (Or.inr (Nat.le_trans (Nat.le_trans S_353.1 Kq241.1) q253)) all0))).ext E277
  have S_355 : Keep T116.heap h342 [] := ((S_354.trans Kq337 (allS (Or.inr (Nat.le_trans (Nat.le_trans S_353.1 (Nat.le_trans (Nat.le_trans Kq241.1 Kq250.1) Kq268.1)) lb278)) all0)).ext E342)
  have c356 := q117.keep S_355
  have c357 := q118.keep S_355 nin0
  have c358 := q119.keep S_355 nin0
  have c359 := q121.keep S_355
  have c360 := q122.keep S_355 nin0
  have S_361 := (((Keep.refl T217.heap []).ext E232).trans Kq241 (allS (Or.inr lb233) all0)).trans Kq250 (allS (Or.inr lb233) all0)
  have S_362 : Keep T217.heap h342 [] := ((((S_361.trans Kq268 (allS (Or.inr lb233) (allS (Or.inr (Nat.le_trans (Nat.le_trans E232.1 Kq241.1) q253)) all0))).ext E277).trans Kq337 (allS (Or.inr (Nat.le_trans (Nat.le_trans S_361.1 Kq268.1) lb278)) all0)).ext E342)
  have c363 := q222.keep S_362
  have c364 := q223.keep S_362 nin0
  have c365 := q224.keep S_362 nin0
  have c366 := q226.keep S_362
  have c367 := q227.keep S_362 nin0
  have S_368 : Keep h277 h342 [b277] := (((Keep.refl h277 [b277]).trans Kq337 (allS (Or.inl mI0) all0)).ext E342)
  have c369 := c302.keep S_368
  have S_370 := (((S_63.trans Kq65 (allS (Or.inr (Nat.le_trans (Nat.le_trans E35.1 Kq42.1) lb47)) all0)).ext E80).trans Kq89 (allS (Or.inr (Nat.le_trans (Nat.le_trans S_63.1 Kq65.1) lb81)) all0)).trans Kq98 (allS (Or.inr (Nat.le_trans (Nat.le_trans S_63.1 Kq65.1) lb81)) all0)
  have S_371 : Keep T30.heap h342 [] := ((S_370.trans Kq116 (allS (Or.inr (Nat.le_trans (Nat.le_trans S_63.1 Kq65.1) lb81)) (allS (Or.inr (Nat.le_trans (Nat.le_trans S_63.1 (Nat.le_trans (Nat.le_trans Kq65.1 E80.1) Kq89.1)) q101)) all0))).trans S_355 all0)
  have c372 := q32.keep S_371 nin0
  have S_373 := ((Keep.refl T250.heap [b232, b251]).trans Kq268 (allS (Or.inl mI0) (allS (Or.inl mI1) all0))).ext E277
  have S_374 : Keep T250.heap h342 [b232, b251] := (S_373.trans S_368 (allS (Or.inr (Nat.le_trans Kq268.1 lb278)) all0))
  have c375 := c265.keep S_374
  have o376 : b80 < b125 := Nat.lt_trans o114 o307
  have o377 : b80 < b144 := Nat.lt_trans o376 o159
  have o378 : b80 < b180 := Nat.lt_trans o377 o310
  have o379 : b80 < b196 := Nat.lt_trans o378 o312
  have o380 : b80 < b218 := Nat.lt_trans o379 o314
  have o381 : b80 < b232 := Nat.lt_trans o380 o316
  have o382 : b80 < b251 := Nat.lt_trans o381 o266
  have o383 : b80 < b277 := Nat.lt_trans o382 o319
  have o384 : b277 < b342 := Nat.lt_of_lt_of_le A277.lt (Nat.le_trans Kq337.1 lb343)
  have o385 : b80 < b342 := Nat.lt_trans o383 o384
  have ne386 : b80 ≠ b342 := Nat.ne_of_lt o385
  have o387 : b196 < b232 := Nat.lt_trans o314 o316
  have o388 : b196 < b251 := Nat.lt_trans o387 o266
  have o389 : b196 < b277 := Nat.lt_trans o388 o319
  have o390 : b196 < b342 := Nat.lt_trans o389 o384
  have ne391 : b196 ≠ b342 := Nat.ne_of_lt o390
  have o392 : b99 < b144 := Nat.lt_trans o307 o159
  have o393 : b99 < b180 := Nat.lt_trans o392 o310
  have o394 : b99 < b196 := Nat.lt_trans o393 o312
  have o395 : b99 < b218 := Nat.lt_trans o394 o314
  have o396 : b99 < b232 := Nat.lt_trans o395 o316
  have o397 : b99 < b251 := Nat.lt_trans o396 o266
  have o398 : b99 < b277 := Nat.lt_trans o397 o319
  have o399 : b99 < b342 := Nat.lt_trans o398 o384
  have ne400 : b99 ≠ b342 := Nat.ne_of_lt o399
  have o401 : b218 < b251 := Nat.lt_trans o316 o266
  have o402 : b218 < b277 := Nat.lt_trans o401 o319
  have o403 : b218 < b342 := Nat.lt_trans o402 o384
  have ne404 : b218 ≠ b342 := Nat.ne_of_lt o403
  refine GoW.cps (own_ci (W := 1) (b := b342) (argsL := [(.ref b80), (.ref b196)]) (rest := [(.ref b342)]) X342 hx hZ hown rfl (hw _ tw104) (hw _ tw105) (hw _ tw106) (hw _ tw103) (by decide) e342 (rm14_1 l Z a0 hw [] b342 b80 b196 wm we wl wo b99 k100 b10 b10 b35 b218 k219 h342 n0 O347 M_AO S_EM S_EL S_OD A342 g345 F348 F349 F350 c356 c357 c358 c359 c360 c363 c364 c365 c366 c367 c369 c369 c372 c375 ne386 ne391 ne400 ne404) rfl (by rw [hml]; rfl) (lenOf pd25 rfl) rfl (Nat.le_of_eq rfl) (hb hby at_200) rfl (by decide)) ?_
  rintro T405 _ L405 X405 ⟨b406, rfl, Nq405, Kq405, q407, q408, q409, q410, q411, q412⟩
  have N405 := Fr.app N337 Nq405
  have sz413 : h0.size ≤ b406 := Nat.le_trans K346.1 q408
  have g414 : n0 ≤ b406 := Nat.le_trans Z0 sz413
  have K415 := K346.trans Kq405 (allS (Or.inr sz344) all0)
  have O416 := O347.keep Kq405 (allS g345 all0)
  refine GoW.st (t' := T405.setTop (mkF m 205 #[SI p0, SI p1, SI p2, SI p3, SI (p0 &&& (3 : Int32)), SI ka, SI kb, SI kc, SR b10, SR b35, SR b46, SR b80, SR b125, SR b180, SR b196, SR b232, SR b277, SR b342, .unset, .unset, .unset, .unset, .unset, .unset, .unset, .unset] [])) (fun target kt => ?_) ?_
  · refine XS.astore X405.here hx rfl (hb hby at_203) rfl rfl (l' := #[SI p0, SI p1, SI p2, SI p3, SI (p0 &&& (3 : Int32)), SI ka, SI kb, SI kc, SR b10, SR b35, SR b46, SR b80, SR b125, SR b180, SR b196, SR b232, SR b277, SR b342, .unset, .unset, .unset, .unset, .unset, .unset, .unset, .unset]) rfl ?_
    exact kt
  obtain ⟨T417, h417, X417, e417, E417, A417, D417, -, st417⟩ := newO X405 hx hZ hown (hw _ tw101) (hw _ tw102) (hw _ tw103) rfl (g := (mkF m 205 #[SI p0, SI p1, SI p2, SI p3, SI (p0 &&& (3 : Int32)), SI ka, SI kb, SI kc, SR b10, SR b35, SR b46, SR b80, SR b125, SR b180, SR b196, SR b232, SR b277, SR b342, .unset, .unset, .unset, .unset, .unset, .unset, .unset, .unset] [])) rfl (hb hby at_205) (by decide) (by decide)
  obtain ⟨b417, g417⟩ : ∃ z, z = T405.heap.size := ⟨_, rfl⟩
  rw [← g417] at A417 D417 st417
  have lb418 : T405.heap.size ≤ b417 := Nat.le_of_eq g417.symm
  have sz419 : h0.size ≤ b417 := Nat.le_trans K415.1 lb418
  have g420 : n0 ≤ b417 := Nat.le_trans Z0 sz419
  have K421 := K415.ext E417
  have O422 := O416.ext E417
  have F423 : Fld Z h417 b417 sq4 "activities" sq11 .null := D417 (Or.inr (hw _ tw208)) (ty := (.object sq3)) (by decide)
  have F424 : Fld Z h417 b417 sq4 "legs" sq11 .null := D417 (Or.inr (hw _ tw214)) (ty := (.object sq3)) (by decide)
  have F425 : Fld Z h417 b417 sq4 "score" sq22 .null := D417 (Or.inr (hw _ tw221)) (ty := (.object sq15)) (by decide)
  refine GoW.st st417 ?_
  refine GoW.st (t' := T417.setTop (mkF m 213 #[SI p0, SI p1, SI p2, SI p3, SI (p0 &&& (3 : Int32)), SI ka, SI kb, SI kc, SR b10, SR b35, SR b46, SR b80, SR b125, SR b180, SR b196, SR b232, SR b277, SR b342, .unset, .unset, .unset, .unset, .unset, .unset, .unset, .unset] [(.ref b232), (.ref b125), (.ref b417), (.ref b417)])) (fun target kt => ?_) ?_
  · refine XS.dup X417.here hx rfl (hb hby at_208) rfl rfl ?_
    refine XS.aload X417.here hx rfl (hb hby at_209) rfl rfl ?_
    refine XS.aload X417.here hx rfl (hb hby at_211) rfl rfl ?_
    exact kt
  have S_426 := (((Keep.refl T171.heap []).ext E180).trans Kq189 (allS (Or.inr lb181) all0)).ext E196
  have S_427 := ((S_426.trans Kq205 (allS (Or.inr (Nat.le_trans (Nat.le_trans E180.1 Kq189.1) lb197)) all0)).trans Kq217 (allS (Or.inr (Nat.le_trans (Nat.le_trans E180.1 Kq189.1) lb197)) all0)).ext E232
  have S_428 := (((S_427.trans Kq241 (allS (Or.inr (Nat.le_trans (Nat.le_trans S_426.1 (Nat.le_trans Kq205.1 Kq217.1)) lb233)) all0)).trans Kq250 (allS (Or.inr (Nat.le_trans (Nat.le_trans S_426.1 (Nat.le_trans Kq205.1 Kq217.1)) lb233)) all0)).trans Kq268 (allS (Or.inr (Nat.le_trans (Nat.le_trans S_426.1 (Nat.le_trans Kq205.1 Kq217.1)) lb233)) (allS (Or.inr (Nat.le_trans (Nat.le_trans S_427.1 Kq241.1) q253)) all0))).ext E277
  have S_429 : Keep T171.heap h417 [] := ((((S_428.trans Kq337 (allS (Or.inr (Nat.le_trans (Nat.le_trans S_427.1 (Nat.le_trans (Nat.le_trans Kq241.1 Kq250.1) Kq268.1)) lb278)) all0)).ext E342).trans Kq405 (allS (Or.inr (Nat.le_trans (Nat.le_trans S_428.1 Kq337.1) lb343)) all0)).ext E417)
  have c430 := q172.keep S_429
  have c431 := q173.keep S_429 nin0
  have c432 := q174.keep S_429 nin0
  have c433 := q176.keep S_429
  have c434 := q177.keep S_429 nin0
  have S_435 := (((Keep.refl T268.heap []).ext E277).trans Kq337 (allS (Or.inr lb278) all0)).ext E342
  have S_436 : Keep T268.heap h417 [] := ((S_435.trans Kq405 (allS (Or.inr (Nat.le_trans (Nat.le_trans E277.1 Kq337.1) lb343)) all0)).ext E417)
  have c437 := q269.keep S_436
  have c438 := q270.keep S_436 nin0
  have c439 := q271.keep S_436 nin0
  have c440 := q273.keep S_436
  have c441 := q274.keep S_436 nin0
  have S_442 : Keep h342 h417 [b342] := (((Keep.refl h342 [b342]).trans Kq405 (allS (Or.inl mI0) all0)).ext E417)
  have c443 := c369.keep S_442
  have o444 : b10 < b35 := Nat.lt_of_lt_of_le A10.lt (Nat.le_trans (Nat.le_trans E21.1 Kq30.1) lb36)
  have o445 : b35 < b46 := Nat.lt_of_lt_of_le A35.lt (Nat.le_trans Kq42.1 lb47)
  have o446 : b10 < b46 := Nat.lt_trans o444 o445
  have o447 : b10 < b66 := Nat.lt_trans o446 o303
  have o448 : b10 < b80 := Nat.lt_trans o447 o304
  have o449 : b10 < b99 := Nat.lt_trans o448 o114
  have o450 : b10 < b125 := Nat.lt_trans o449 o307
  have o451 : b10 < b144 := Nat.lt_trans o450 o159
  have o452 : b10 < b180 := Nat.lt_trans o451 o310
  have o453 : b10 < b196 := Nat.lt_trans o452 o312
  have o454 : b10 < b218 := Nat.lt_trans o453 o314
  have o455 : b10 < b232 := Nat.lt_trans o454 o316
  have o456 : b10 < b251 := Nat.lt_trans o455 o266
  have o457 : b10 < b277 := Nat.lt_trans o456 o319
  have o458 : b10 < b342 := Nat.lt_trans o457 o384
  have ne459 : b10 ≠ b342 := Nat.ne_of_lt o458
  have c460 := c372.keep S_442 (ninS ne459 nin0)
  have c461 := c375.keep S_442
  have o462 : b125 < b180 := Nat.lt_trans o159 o310
  have o463 : b125 < b196 := Nat.lt_trans o462 o312
  have o464 : b125 < b218 := Nat.lt_trans o463 o314
  have o465 : b125 < b232 := Nat.lt_trans o464 o316
  have o466 : b125 < b251 := Nat.lt_trans o465 o266
  have o467 : b125 < b277 := Nat.lt_trans o466 o319
  have o468 : b125 < b342 := Nat.lt_trans o467 o384
  have o469 : b342 < b406 := Nat.lt_of_lt_of_le A342.lt q408
  have o470 : b125 < b406 := Nat.lt_trans o468 o469
  have o471 : b406 < b417 := Nat.lt_of_lt_of_le q410.lt lb418
  have o472 : b125 < b417 := Nat.lt_trans o470 o471
  have ne473 : b125 ≠ b417 := Nat.ne_of_lt o472
  have o474 : b232 < b277 := Nat.lt_trans o266 o319
  have o475 : b232 < b342 := Nat.lt_trans o474 o384
  have o476 : b232 < b406 := Nat.lt_trans o475 o469
  have o477 : b232 < b417 := Nat.lt_trans o476 o471
  have ne478 : b232 ≠ b417 := Nat.ne_of_lt o477
  have o479 : b144 < b196 := Nat.lt_trans o310 o312
  have o480 : b144 < b218 := Nat.lt_trans o479 o314
  have o481 : b144 < b232 := Nat.lt_trans o480 o316
  have o482 : b144 < b251 := Nat.lt_trans o481 o266
  have o483 : b144 < b277 := Nat.lt_trans o482 o319
  have o484 : b144 < b342 := Nat.lt_trans o483 o384
  have o485 : b144 < b406 := Nat.lt_trans o484 o469
  have o486 : b144 < b417 := Nat.lt_trans o485 o471
  have ne487 : b144 ≠ b417 := Nat.ne_of_lt o486
  have o488 : b251 < b342 := Nat.lt_trans o319 o384
  have o489 : b251 < b406 := Nat.lt_trans o488 o469
  have o490 : b251 < b417 := Nat.lt_trans o489 o471
  have ne491 : b251 ≠ b417 := Nat.ne_of_lt o490
  refine GoW.cps (own_ci (W := 1) (b := b417) (argsL := [(.ref b125), (.ref b232)]) (rest := [(.ref b417)]) X417 hx hZ hown rfl (hw _ tw104) (hw _ tw105) (hw _ tw106) (hw _ tw103) (by decide) e417 (rm14_2 l Z a0 hw [] b417 b125 b232 wm we wl wo b144 k145 b10 b10 b10 b35 b35 b251 k252 h417 n0 O422 M_AO S_EM S_EL S_OD A417 g420 F423 F424 F425 c430 c431 c432 c433 c434 c437 c438 c439 c440 c441 c443 c443 c443 c460 c460 c461 c461 ne473 ne478 ne487 ne491) rfl (by rw [hml]; rfl) (lenOf pd25 rfl) rfl (Nat.le_of_eq rfl) (hb hby at_213) rfl (by decide)) ?_
  rintro T492 _ L492 X492 ⟨b493, rfl, Nq492, Kq492, q494, q495, q496, q497, q498, q499⟩
  have N492 := Fr.app N405 Nq492
  have sz500 : h0.size ≤ b493 := Nat.le_trans K421.1 q495
  have g501 : n0 ≤ b493 := Nat.le_trans Z0 sz500
  have K502 := K421.trans Kq492 (allS (Or.inr sz419) all0)
  have O503 := O422.keep Kq492 (allS g420 all0)
  refine GoW.st (t' := T492.setTop (mkF m 218 #[SI p0, SI p1, SI p2, SI p3, SI (p0 &&& (3 : Int32)), SI ka, SI kb, SI kc, SR b10, SR b35, SR b46, SR b80, SR b125, SR b180, SR b196, SR b232, SR b277, SR b342, SR b417, .unset, .unset, .unset, .unset, .unset, .unset, .unset] [])) (fun target kt => ?_) ?_
  · refine XS.astore X492.here hx rfl (hb hby at_216) rfl rfl (l' := #[SI p0, SI p1, SI p2, SI p3, SI (p0 &&& (3 : Int32)), SI ka, SI kb, SI kc, SR b10, SR b35, SR b46, SR b80, SR b125, SR b180, SR b196, SR b232, SR b277, SR b342, SR b417, .unset, .unset, .unset, .unset, .unset, .unset, .unset]) rfl ?_
    exact kt
  obtain ⟨T504, h504, X504, e504, E504, A504, D504, -, st504⟩ := newO X492 hx hZ hown (hw _ tw45) (hw _ tw46) (hw _ tw47) rfl (g := (mkF m 218 #[SI p0, SI p1, SI p2, SI p3, SI (p0 &&& (3 : Int32)), SI ka, SI kb, SI kc, SR b10, SR b35, SR b46, SR b80, SR b125, SR b180, SR b196, SR b232, SR b277, SR b342, SR b417, .unset, .unset, .unset, .unset, .unset, .unset, .unset] [])) rfl (hb hby at_218) (by decide) (by decide)
  obtain ⟨b504, g504⟩ : ∃ z, z = T492.heap.size := ⟨_, rfl⟩
  rw [← g504] at A504 D504 st504
  have lb505 : T492.heap.size ≤ b504 := Nat.le_of_eq g504.symm
  have sz506 : h0.size ≤ b504 := Nat.le_trans K502.1 lb505
  have g507 : n0 ≤ b504 := Nat.le_trans Z0 sz506
  have K508 := K502.ext E504
  have O509 := O503.ext E504
  have F510 : Fld Z h504 b504 sq13 "modCount" "I" (.int 0) := D504 (Or.inl (hw _ tw65)) (ty := .int) (by decide)
  have F511 : Fld Z h504 b504 sq0 sq10 sq2 .null := D504 (Or.inl (hw _ tw68)) (ty := (.array (.object sq1))) (by decide)
  have F512 : Fld Z h504 b504 sq0 "size" "I" (.int 0) := D504 (Or.inl (hw _ tw77)) (ty := .int) (by decide)
  refine GoW.st st504 ?_
  refine GoW.st (t' := T504.setTop (mkF m 222 #[SI p0, SI p1, SI p2, SI p3, SI (p0 &&& (3 : Int32)), SI ka, SI kb, SI kc, SR b10, SR b35, SR b46, SR b80, SR b125, SR b180, SR b196, SR b232, SR b277, SR b342, SR b417, .unset, .unset, .unset, .unset, .unset, .unset, .unset] [(.ref b504), (.ref b504)])) (fun target kt => ?_) ?_
  · refine XS.dup X504.here hx rfl (hb hby at_221) rfl rfl ?_
    exact kt
  refine GoW.cps (own_ci (W := 1) (b := b504) (argsL := []) (rest := [(.ref b504)]) X504 hx hZ hown rfl (hw _ tw48) (hw _ tw49) (hw _ tw50) (hw _ tw47) (by decide) e504 (rm6 l Z a0 hw [] b504 wd kd h504 n0 O509 S_DE E_wd V_wd A504 g507 F511 F512 F510) rfl (by rw [hml]; rfl) (lenOf pd0 rfl) rfl (Nat.le_of_eq rfl) (hb hby at_222) rfl (by decide)) ?_
  rintro T513 _ L513 X513 ⟨rfl, Nq513, Kq513, q514, q515, q516, q517⟩
  have N513 := Fr.app N492 Nq513
  have K518 := K508.trans Kq513 (allS (Or.inr sz506) all0)
  have O519 := O509.keep Kq513 (allS g507 all0)
  refine GoW.st (t' := T513.setTop (mkF m 231 #[SI p0, SI p1, SI p2, SI p3, SI (p0 &&& (3 : Int32)), SI ka, SI kb, SI kc, SR b10, SR b35, SR b46, SR b80, SR b125, SR b180, SR b196, SR b232, SR b277, SR b342, SR b417, SR b504, .unset, .unset, .unset, .unset, .unset, .unset] [(.ref b277), (.ref b504)])) (fun target kt => ?_) ?_
  · refine XS.astore X513.here hx rfl (hb hby at_225) rfl rfl (l' := #[SI p0, SI p1, SI p2, SI p3, SI (p0 &&& (3 : Int32)), SI ka, SI kb, SI kc, SR b10, SR b35, SR b46, SR b80, SR b125, SR b180, SR b196, SR b232, SR b277, SR b342, SR b417, SR b504, .unset, .unset, .unset, .unset, .unset, .unset]) rfl ?_
    refine XS.aload X513.here hx rfl (hb hby at_227) rfl rfl ?_
    refine XS.aload X513.here hx rfl (hb hby at_229) rfl rfl ?_
    exact kt
  have S_520 := (((Keep.refl T337.heap []).ext E342).trans Kq405 (allS (Or.inr lb343) all0)).ext E417
  have S_521 : Keep T337.heap T513.heap [] := (((S_520.trans Kq492 (allS (Or.inr (Nat.le_trans (Nat.le_trans E342.1 Kq405.1) lb418)) all0)).ext E504).trans Kq513 (allS (Or.inr (Nat.le_trans (Nat.le_trans S_520.1 Kq492.1) lb505)) all0))
  have c522 := q338.keep S_521
  refine GoW.cps (own_cw (W := 0) (b := b504) (argsL := [(.ref b277)]) (rest := []) X513 hx hZ hown (hw _ tw69) (hw _ tw70) (hw _ tw72) (hw _ tw71) (hw _ tw73) (hw _ tw47) (by decide) rfl q514 (rm9_0 l Z a0 hw [] b504 b277 wd kd (0 : Int32) T513.heap n0 O519 S_DE E_wd V_wd q514 q515 q516 q517 g507 (Ins.of_exa c522 (hw _ tw271))) rfl (by rw [hml]; rfl) (lenOf pd24 rfl) rfl (Nat.le_of_eq rfl) (hb hby at_231) rfl (by decide)) ?_
  rintro T523 _ L523 X523 ⟨b524, k525, rfl, Nq523, Kq523, q526, q527, q528, q529, q530, q531, q532, q533⟩
  have N523 := Fr.app N513 Nq523
  have sz534 : h0.size ≤ b524 := Nat.le_trans K518.1 q526
  have g535 : n0 ≤ b524 := Nat.le_trans Z0 sz534
  have K536 := K518.trans Kq523 (allS (Or.inr sz506) all0)
  have O537 := O519.keep Kq523 (allS g507 all0)
  refine GoW.st (t' := T523.setTop (mkF m 239 #[SI p0, SI p1, SI p2, SI p3, SI (p0 &&& (3 : Int32)), SI ka, SI kb, SI kc, SR b10, SR b35, SR b46, SR b80, SR b125, SR b180, SR b196, SR b232, SR b277, SR b342, SR b417, SR b504, .unset, .unset, .unset, .unset, .unset, .unset] [(.ref b342), (.ref b504)])) (fun target kt => ?_) ?_
  · refine XS.pop X523.here hx rfl (hb hby at_234) rfl rfl ?_
    refine XS.aload X523.here hx rfl (hb hby at_235) rfl rfl ?_
    refine XS.aload X523.here hx rfl (hb hby at_237) rfl rfl ?_
    exact kt
  have S_538 := (((Keep.refl T405.heap []).ext E417).trans Kq492 (allS (Or.inr lb418) all0)).ext E504
  have S_539 : Keep T405.heap T523.heap [] := ((S_538.trans Kq513 (allS (Or.inr (Nat.le_trans (Nat.le_trans E417.1 Kq492.1) lb505)) all0)).trans Kq523 (allS (Or.inr (Nat.le_trans (Nat.le_trans E417.1 Kq492.1) lb505)) all0))
  have c540 := q407.keep S_539
  have o541 : b504 < b524 := Nat.lt_of_lt_of_le A504.lt (Nat.le_trans Kq513.1 q526)
  have ne542 : b504 ≠ b524 := Nat.ne_of_lt o541
  refine GoW.cps (own_cw (W := 0) (b := b504) (argsL := [(.ref b342)]) (rest := []) X523 hx hZ hown (hw _ tw69) (hw _ tw70) (hw _ tw72) (hw _ tw71) (hw _ tw73) (hw _ tw47) (by decide) rfl q528 (rm9_1 l Z a0 hw [] b504 b342 b524 k525 b277 ((0 : Int32) + (1 : Int32)) T523.heap n0 O537  q528 q529 q530 q531 q532 q533 g507 g535 ne542 q527 (Ins.of_exa c540 (hw _ tw271))) rfl (by rw [hml]; rfl) (lenOf pd24 rfl) rfl (Nat.le_of_eq rfl) (hb hby at_239) rfl (by decide)) ?_
  rintro T543 _ L543 X543 ⟨rfl, Nq543, Kq543, q544, q545, q546, q547, q548, q549⟩
  have N543 := Fr.app N523 Nq543
  have K550 := K536.trans Kq543 (allS (Or.inr sz506) (allS (Or.inr sz534) all0))
  have O551 := O537.keep Kq543 (allS g507 (allS g535 all0))
  refine GoW.st (t' := T543.setTop (mkF m 247 #[SI p0, SI p1, SI p2, SI p3, SI (p0 &&& (3 : Int32)), SI ka, SI kb, SI kc, SR b10, SR b35, SR b46, SR b80, SR b125, SR b180, SR b196, SR b232, SR b277, SR b342, SR b417, SR b504, .unset, .unset, .unset, .unset, .unset, .unset] [(.ref b417), (.ref b504)])) (fun target kt => ?_) ?_
  · refine XS.pop X543.here hx rfl (hb hby at_242) rfl rfl ?_
    refine XS.aload X543.here hx rfl (hb hby at_243) rfl rfl ?_
    refine XS.aload X543.here hx rfl (hb hby at_245) rfl rfl ?_
    exact kt
  have S_552 := (((Keep.refl T492.heap []).ext E504).trans Kq513 (allS (Or.inr lb505) all0)).trans Kq523 (allS (Or.inr lb505) all0)
  have S_553 : Keep T492.heap T543.heap [] := (S_552.trans Kq543 (allS (Or.inr lb505) (allS (Or.inr (Nat.le_trans (Nat.le_trans E504.1 Kq513.1) q526)) all0)))
  have c554 := q494.keep S_553
  refine GoW.cps (own_cw (W := 0) (b := b504) (argsL := [(.ref b417)]) (rest := []) X543 hx hZ hown (hw _ tw69) (hw _ tw70) (hw _ tw72) (hw _ tw71) (hw _ tw73) (hw _ tw47) (by decide) rfl q544 (rm9_2 l Z a0 hw [] b504 b417 b524 k525 b277 b342 (((0 : Int32) + (1 : Int32)) + (1 : Int32)) T543.heap n0 O551  q544 q545 q546 q547 q548 q549 g507 g535 ne542 q527 (Ins.of_exa c554 (hw _ tw271))) rfl (by rw [hml]; rfl) (lenOf pd24 rfl) rfl (Nat.le_of_eq rfl) (hb hby at_247) rfl (by decide)) ?_
  rintro T555 _ L555 X555 ⟨rfl, Nq555, Kq555, q556, q557, q558, q559, q560, q561⟩
  have N555 := Fr.app N543 Nq555
  have K562 := K550.trans Kq555 (allS (Or.inr sz506) (allS (Or.inr sz534) all0))
  have O563 := O551.keep Kq555 (allS g507 (allS g535 all0))
  refine GoW.st (t' := T555.setTop (mkF m 251 #[SI p0, SI p1, SI p2, SI p3, SI (p0 &&& (3 : Int32)), SI ka, SI kb, SI kc, SR b10, SR b35, SR b46, SR b80, SR b125, SR b180, SR b196, SR b232, SR b277, SR b342, SR b417, SR b504, .unset, .unset, .unset, .unset, .unset, .unset] [])) (fun target kt => ?_) ?_
  · refine XS.pop X555.here hx rfl (hb hby at_250) rfl rfl ?_
    exact kt
  obtain ⟨T564, h564, X564, e564, E564, A564, D564, -, st564⟩ := newO X555 hx hZ hown (hw _ tw272) (hw _ tw273) (hw _ tw274) rfl (g := (mkF m 251 #[SI p0, SI p1, SI p2, SI p3, SI (p0 &&& (3 : Int32)), SI ka, SI kb, SI kc, SR b10, SR b35, SR b46, SR b80, SR b125, SR b180, SR b196, SR b232, SR b277, SR b342, SR b417, SR b504, .unset, .unset, .unset, .unset, .unset, .unset] [])) rfl (hb hby at_251) (by decide) (by decide)
  obtain ⟨b564, g564⟩ : ∃ z, z = T555.heap.size := ⟨_, rfl⟩
  rw [← g564] at A564 D564 st564
  have lb565 : T555.heap.size ≤ b564 := Nat.le_of_eq g564.symm
  have sz566 : h0.size ≤ b564 := Nat.le_trans K562.1 lb565
  have g567 : n0 ≤ b564 := Nat.le_trans Z0 sz566
  have K568 := K562.ext E564
  have O569 := O563.ext E564
  have F570 : Fld Z h564 b564 sq9 "id" sq23 .null := D564 (Or.inr (hw _ tw282)) (ty := (.object sq17)) (by decide)
  have F571 : Fld Z h564 b564 sq9 "plans" sq11 .null := D564 (Or.inr (hw _ tw285)) (ty := (.object sq3)) (by decide)
  have F572 : Fld Z h564 b564 sq9 "selected" "I" (.int 0) := D564 (Or.inr (hw _ tw287)) (ty := .int) (by decide)
  refine GoW.st st564 ?_
  refine GoW.st (t' := T564.setTop (mkF m 255 #[SI p0, SI p1, SI p2, SI p3, SI (p0 &&& (3 : Int32)), SI ka, SI kb, SI kc, SR b10, SR b35, SR b46, SR b80, SR b125, SR b180, SR b196, SR b232, SR b277, SR b342, SR b417, SR b504, .unset, .unset, .unset, .unset, .unset, .unset] [(.ref b564), (.ref b564)])) (fun target kt => ?_) ?_
  · refine XS.dup X564.here hx rfl (hb hby at_254) rfl rfl ?_
    exact kt
  obtain ⟨b573, T573, h573, k573, X573, e573, E573, hSi, hk573, hZ, hown, st573⟩ := ldcS X564 hx hZ hown (hw _ tw275) wS e564 hSi (Nat.le_trans hk21 (Nat.le_trans (Nat.le_trans (Nat.le_trans (Nat.le_trans (Nat.le_trans (Nat.le_trans (Nat.le_trans (Nat.le_trans (Nat.le_trans (Nat.le_trans (Nat.le_trans (Nat.le_trans (Nat.le_trans (Nat.le_trans (Nat.le_trans (Nat.le_trans (Nat.le_trans (Nat.le_trans (Nat.le_trans (Nat.le_trans (Nat.le_trans (Nat.le_trans (Nat.le_trans (Nat.le_trans (Nat.le_trans (Nat.le_trans (Nat.le_trans (Nat.le_trans (Nat.le_trans (Nat.le_trans (Nat.le_trans (Nat.le_trans (Nat.le_trans (Nat.le_trans (Nat.le_trans Kq30.1 E35.1) Kq42.1) E46.1) Kq55.1) Kq65.1) E80.1) Kq89.1) Kq98.1) Kq116.1) E125.1) Kq134.1) Kq143.1) Kq161.1) Kq171.1) E180.1) Kq189.1) E196.1) Kq205.1) Kq217.1) E232.1) Kq241.1) Kq250.1) Kq268.1) E277.1) Kq337.1) E342.1) Kq405.1) E417.1) Kq492.1) E504.1) Kq513.1) Kq523.1) Kq543.1) Kq555.1) E564.1)) (g := (mkF m 255 #[SI p0, SI p1, SI p2, SI p3, SI (p0 &&& (3 : Int32)), SI ka, SI kb, SI kc, SR b10, SR b35, SR b46, SR b80, SR b125, SR b180, SR b196, SR b232, SR b277, SR b342, SR b417, SR b504, .unset, .unset, .unset, .unset, .unset, .unset] [(.ref b564), (.ref b564)])) rfl (hb hby at_255) (n := 4) (by decide) (by decide) (by decide) (by decide)
  have K574 := K568.ext E573
  have O575 := O569.ext E573
  refine GoW.st st573 ?_
  refine GoW.st (t' := T573.setTop (mkF m 261 #[SI p0, SI p1, SI p2, SI p3, SI (p0 &&& (3 : Int32)), SI ka, SI kb, SI kc, SR b10, SR b35, SR b46, SR b80, SR b125, SR b180, SR b196, SR b232, SR b277, SR b342, SR b417, SR b504, .unset, .unset, .unset, .unset, .unset, .unset] [(.int ka), (.ref b504), (.ref b573), (.ref b564), (.ref b564)])) (fun target kt => ?_) ?_
  · refine XS.aload X573.here hx rfl (hb hby at_257) rfl rfl ?_
    refine XS.iload X573.here hx rfl (hb hby at_259) rfl ?_
    exact kt
  have c576 := A564.ext E573
  have c577 := F570.ext E573
  have c578 := F571.ext E573
  have c579 := F572.ext E573
  have S_580 : Keep T555.heap h573 [] := (((Keep.refl T555.heap []).ext E564).ext E573)
  have c581 := q556.keep S_580
  have c582 := q557.keep S_580 nin0
  have c583 := q558.keep S_580 nin0
  have c584 := q560.keep S_580
  have c585 := q561.keep S_580 nin0
  have S_586 : Keep T513.heap h573 [b504] := (((((Keep.refl T513.heap [b504]).trans Kq523 (allS (Or.inl mI0) all0)).trans Kq543 (allS (Or.inl mI0) (allS (Or.inr q526) all0))).trans Kq555 (allS (Or.inl mI0) (allS (Or.inr q526) all0))).trans S_580 all0)
  have c587 := c522.keep S_586
  have S_588 : Keep T523.heap h573 [b504, b524] := ((((Keep.refl T523.heap [b504, b524]).trans Kq543 (allS (Or.inl mI0) (allS (Or.inl mI1) all0))).trans Kq555 (allS (Or.inl mI0) (allS (Or.inl mI1) all0))).trans S_580 all0)
  have c589 := c540.keep S_588
  have S_590 : Keep T543.heap h573 [b504, b524] := (((Keep.refl T543.heap [b504, b524]).trans Kq555 (allS (Or.inl mI0) (allS (Or.inl mI1) all0))).trans S_580 all0)
  have c591 := c554.keep S_590
  have o592 : b524 < b564 := Nat.lt_of_lt_of_le q532.lt (Nat.le_trans (Nat.le_trans Kq543.1 Kq555.1) lb565)
  have o593 : b504 < b564 := Nat.lt_trans o541 o592
  have ne594 : b504 ≠ b564 := Nat.ne_of_lt o593
  have ne595 : b524 ≠ b564 := Nat.ne_of_lt o592
  refine GoW.cps (own_ci (W := 1) (b := b564) (argsL := [(.ref b573), (.ref b504), (.int ka)]) (rest := [(.ref b564)]) X573 hx hZ hown rfl (hw _ tw276) (hw _ tw277) (hw _ tw278) (hw _ tw274) (by decide) e573 (rm38 l Z a0 hw [] b564 b573 b504 ka wm b524 k525 b277 b342 b417 h573 n0 O575 M_AO c576 g567 c577 c578 c579 c581 c582 c583 c584 c585 c587 c589 c591 ne594 ne595 hr0_ka hr2_ka) rfl (by rw [hml]; rfl) (lenOf pd26 rfl) rfl (Nat.le_of_eq rfl) (hb hby at_261) rfl (by decide)) ?_
  rintro T596 _ L596 X596 ⟨b597, b598, k599, rfl, Nq596, Kq596, q600, q601, q602, q603, q604, q605, q606, q607⟩
  have N596 := Fr.app N555 Nq596
  have sz608 : h0.size ≤ b597 := Nat.le_trans K574.1 q600
  have g609 : n0 ≤ b597 := Nat.le_trans Z0 sz608
  have sz610 : h0.size ≤ b598 := Nat.le_trans K574.1 q601
  have g611 : n0 ≤ b598 := Nat.le_trans Z0 sz610
  have K612 := K574.trans Kq596 (allS (Or.inr sz566) all0)
  have O613 := O575.keep Kq596 (allS g567 all0)
  refine GoW.st (t' := T596.setTop (mkF m 266 #[SI p0, SI p1, SI p2, SI p3, SI (p0 &&& (3 : Int32)), SI ka, SI kb, SI kc, SR b10, SR b35, SR b46, SR b80, SR b125, SR b180, SR b196, SR b232, SR b277, SR b342, SR b417, SR b504, SR b564, .unset, .unset, .unset, .unset, .unset] [])) (fun target kt => ?_) ?_
  · refine XS.astore X596.here hx rfl (hb hby at_264) rfl rfl (l' := #[SI p0, SI p1, SI p2, SI p3, SI (p0 &&& (3 : Int32)), SI ka, SI kb, SI kc, SR b10, SR b35, SR b46, SR b80, SR b125, SR b180, SR b196, SR b232, SR b277, SR b342, SR b417, SR b504, SR b564, .unset, .unset, .unset, .unset, .unset]) rfl ?_
    exact kt
  obtain ⟨T614, h614, X614, e614, E614, A614, D614, -, st614⟩ := newO X596 hx hZ hown (hw _ tw272) (hw _ tw273) (hw _ tw274) rfl (g := (mkF m 266 #[SI p0, SI p1, SI p2, SI p3, SI (p0 &&& (3 : Int32)), SI ka, SI kb, SI kc, SR b10, SR b35, SR b46, SR b80, SR b125, SR b180, SR b196, SR b232, SR b277, SR b342, SR b417, SR b504, SR b564, .unset, .unset, .unset, .unset, .unset] [])) rfl (hb hby at_266) (by decide) (by decide)
  obtain ⟨b614, g614⟩ : ∃ z, z = T596.heap.size := ⟨_, rfl⟩
  rw [← g614] at A614 D614 st614
  have lb615 : T596.heap.size ≤ b614 := Nat.le_of_eq g614.symm
  have sz616 : h0.size ≤ b614 := Nat.le_trans K612.1 lb615
  have g617 : n0 ≤ b614 := Nat.le_trans Z0 sz616
  have K618 := K612.ext E614
  have O619 := O613.ext E614
  have F620 : Fld Z h614 b614 sq9 "id" sq23 .null := D614 (Or.inr (hw _ tw282)) (ty := (.object sq17)) (by decide)
  have F621 : Fld Z h614 b614 sq9 "plans" sq11 .null := D614 (Or.inr (hw _ tw285)) (ty := (.object sq3)) (by decide)
  have F622 : Fld Z h614 b614 sq9 "selected" "I" (.int 0) := D614 (Or.inr (hw _ tw287)) (ty := .int) (by decide)
  refine GoW.st st614 ?_
  refine GoW.st (t' := T614.setTop (mkF m 270 #[SI p0, SI p1, SI p2, SI p3, SI (p0 &&& (3 : Int32)), SI ka, SI kb, SI kc, SR b10, SR b35, SR b46, SR b80, SR b125, SR b180, SR b196, SR b232, SR b277, SR b342, SR b417, SR b504, SR b564, .unset, .unset, .unset, .unset, .unset] [(.ref b614), (.ref b614)])) (fun target kt => ?_) ?_
  · refine XS.dup X614.here hx rfl (hb hby at_269) rfl rfl ?_
    exact kt
  obtain ⟨b623, T623, h623, k623, X623, e623, E623, hSi, hk623, hZ, hown, st623⟩ := ldcS X614 hx hZ hown (hw _ tw275) wS e614 hSi (Nat.le_trans hk573 (Nat.le_trans Kq596.1 E614.1)) (g := (mkF m 270 #[SI p0, SI p1, SI p2, SI p3, SI (p0 &&& (3 : Int32)), SI ka, SI kb, SI kc, SR b10, SR b35, SR b46, SR b80, SR b125, SR b180, SR b196, SR b232, SR b277, SR b342, SR b417, SR b504, SR b564, .unset, .unset, .unset, .unset, .unset] [(.ref b614), (.ref b614)])) rfl (hb hby at_270) (n := 4) (by decide) (by decide) (by decide) (by decide)
  have K624 := K618.ext E623
  have O625 := O619.ext E623
  refine GoW.st st623 ?_
  refine GoW.st (t' := T623.setTop (mkF m 276 #[SI p0, SI p1, SI p2, SI p3, SI (p0 &&& (3 : Int32)), SI ka, SI kb, SI kc, SR b10, SR b35, SR b46, SR b80, SR b125, SR b180, SR b196, SR b232, SR b277, SR b342, SR b417, SR b504, SR b564, .unset, .unset, .unset, .unset, .unset] [(.int kb), (.ref b504), (.ref b623), (.ref b614), (.ref b614)])) (fun target kt => ?_) ?_
  · refine XS.aload X623.here hx rfl (hb hby at_272) rfl rfl ?_
    refine XS.iload X623.here hx rfl (hb hby at_274) rfl ?_
    exact kt
  have c626 := A614.ext E623
  have c627 := F620.ext E623
  have c628 := F621.ext E623
  have c629 := F622.ext E623
  have S_630 : Keep h573 h623 [b564] := ((((Keep.refl h573 [b564]).trans Kq596 (allS (Or.inl mI0) all0)).ext E614).ext E623)
  have c631 := c581.keep S_630
  have c632 := c582.keep S_630 (ninS ne594 nin0)
  have c633 := c583.keep S_630 (ninS ne594 nin0)
  have c634 := c584.keep S_630
  have c635 := c585.keep S_630 (ninS ne595 nin0)
  have c636 := c587.keep S_630
  have c637 := c589.keep S_630
  have c638 := c591.keep S_630
  have o639 : b564 < b598 := Nat.lt_of_lt_of_le A564.lt (Nat.le_trans E573.1 q601)
  have o640 : b504 < b598 := Nat.lt_trans o593 o639
  have o641 : b598 < b614 := Nat.lt_of_lt_of_le q607.lt lb615
  have o642 : b504 < b614 := Nat.lt_trans o640 o641
  have ne643 : b504 ≠ b614 := Nat.ne_of_lt o642
  have o644 : b524 < b598 := Nat.lt_trans o592 o639
  have o645 : b524 < b614 := Nat.lt_trans o644 o641
  have ne646 : b524 ≠ b614 := Nat.ne_of_lt o645
  refine GoW.cps (own_ci (W := 1) (b := b614) (argsL := [(.ref b623), (.ref b504), (.int kb)]) (rest := [(.ref b614)]) X623 hx hZ hown rfl (hw _ tw276) (hw _ tw277) (hw _ tw278) (hw _ tw274) (by decide) e623 (rm38 l Z a0 hw [] b614 b623 b504 kb wm b524 k525 b277 b342 b417 h623 n0 O625 M_AO c626 g617 c627 c628 c629 c631 c632 c633 c634 c635 c636 c637 c638 ne643 ne646 hr0_kb hr2_kb) rfl (by rw [hml]; rfl) (lenOf pd26 rfl) rfl (Nat.le_of_eq rfl) (hb hby at_276) rfl (by decide)) ?_
  rintro T647 _ L647 X647 ⟨b648, b649, k650, rfl, Nq647, Kq647, q651, q652, q653, q654, q655, q656, q657, q658⟩
  have N647 := Fr.app N596 Nq647
  have sz659 : h0.size ≤ b648 := Nat.le_trans K624.1 q651
  have g660 : n0 ≤ b648 := Nat.le_trans Z0 sz659
  have sz661 : h0.size ≤ b649 := Nat.le_trans K624.1 q652
  have g662 : n0 ≤ b649 := Nat.le_trans Z0 sz661
  have K663 := K624.trans Kq647 (allS (Or.inr sz616) all0)
  have O664 := O625.keep Kq647 (allS g617 all0)
  refine GoW.st (t' := T647.setTop (mkF m 281 #[SI p0, SI p1, SI p2, SI p3, SI (p0 &&& (3 : Int32)), SI ka, SI kb, SI kc, SR b10, SR b35, SR b46, SR b80, SR b125, SR b180, SR b196, SR b232, SR b277, SR b342, SR b417, SR b504, SR b564, SR b614, .unset, .unset, .unset, .unset] [])) (fun target kt => ?_) ?_
  · refine XS.astore X647.here hx rfl (hb hby at_279) rfl rfl (l' := #[SI p0, SI p1, SI p2, SI p3, SI (p0 &&& (3 : Int32)), SI ka, SI kb, SI kc, SR b10, SR b35, SR b46, SR b80, SR b125, SR b180, SR b196, SR b232, SR b277, SR b342, SR b417, SR b504, SR b564, SR b614, .unset, .unset, .unset, .unset]) rfl ?_
    exact kt
  obtain ⟨T665, h665, X665, e665, E665, A665, D665, -, st665⟩ := newO X647 hx hZ hown (hw _ tw272) (hw _ tw273) (hw _ tw274) rfl (g := (mkF m 281 #[SI p0, SI p1, SI p2, SI p3, SI (p0 &&& (3 : Int32)), SI ka, SI kb, SI kc, SR b10, SR b35, SR b46, SR b80, SR b125, SR b180, SR b196, SR b232, SR b277, SR b342, SR b417, SR b504, SR b564, SR b614, .unset, .unset, .unset, .unset] [])) rfl (hb hby at_281) (by decide) (by decide)
  obtain ⟨b665, g665⟩ : ∃ z, z = T647.heap.size := ⟨_, rfl⟩
  rw [← g665] at A665 D665 st665
  have lb666 : T647.heap.size ≤ b665 := Nat.le_of_eq g665.symm
  have sz667 : h0.size ≤ b665 := Nat.le_trans K663.1 lb666
  have g668 : n0 ≤ b665 := Nat.le_trans Z0 sz667
  have K669 := K663.ext E665
  have O670 := O664.ext E665
  have F671 : Fld Z h665 b665 sq9 "id" sq23 .null := D665 (Or.inr (hw _ tw282)) (ty := (.object sq17)) (by decide)
  have F672 : Fld Z h665 b665 sq9 "plans" sq11 .null := D665 (Or.inr (hw _ tw285)) (ty := (.object sq3)) (by decide)
  have F673 : Fld Z h665 b665 sq9 "selected" "I" (.int 0) := D665 (Or.inr (hw _ tw287)) (ty := .int) (by decide)
  refine GoW.st st665 ?_
  refine GoW.st (t' := T665.setTop (mkF m 285 #[SI p0, SI p1, SI p2, SI p3, SI (p0 &&& (3 : Int32)), SI ka, SI kb, SI kc, SR b10, SR b35, SR b46, SR b80, SR b125, SR b180, SR b196, SR b232, SR b277, SR b342, SR b417, SR b504, SR b564, SR b614, .unset, .unset, .unset, .unset] [(.ref b665), (.ref b665)])) (fun target kt => ?_) ?_
  · refine XS.dup X665.here hx rfl (hb hby at_284) rfl rfl ?_
    exact kt
  obtain ⟨b674, T674, h674, k674, X674, e674, E674, hSi, hk674, hZ, hown, st674⟩ := ldcS X665 hx hZ hown (hw _ tw275) wS e665 hSi (Nat.le_trans hk623 (Nat.le_trans Kq647.1 E665.1)) (g := (mkF m 285 #[SI p0, SI p1, SI p2, SI p3, SI (p0 &&& (3 : Int32)), SI ka, SI kb, SI kc, SR b10, SR b35, SR b46, SR b80, SR b125, SR b180, SR b196, SR b232, SR b277, SR b342, SR b417, SR b504, SR b564, SR b614, .unset, .unset, .unset, .unset] [(.ref b665), (.ref b665)])) rfl (hb hby at_285) (n := 4) (by decide) (by decide) (by decide) (by decide)
  have K675 := K669.ext E674
  have O676 := O670.ext E674
  refine GoW.st st674 ?_
  refine GoW.st (t' := T674.setTop (mkF m 291 #[SI p0, SI p1, SI p2, SI p3, SI (p0 &&& (3 : Int32)), SI ka, SI kb, SI kc, SR b10, SR b35, SR b46, SR b80, SR b125, SR b180, SR b196, SR b232, SR b277, SR b342, SR b417, SR b504, SR b564, SR b614, .unset, .unset, .unset, .unset] [(.int kc), (.ref b504), (.ref b674), (.ref b665), (.ref b665)])) (fun target kt => ?_) ?_
  · refine XS.aload X674.here hx rfl (hb hby at_287) rfl rfl ?_
    refine XS.iload X674.here hx rfl (hb hby at_289) rfl ?_
    exact kt
  have c677 := A665.ext E674
  have c678 := F671.ext E674
  have c679 := F672.ext E674
  have c680 := F673.ext E674
  have S_681 : Keep h623 h674 [b614] := ((((Keep.refl h623 [b614]).trans Kq647 (allS (Or.inl mI0) all0)).ext E665).ext E674)
  have c682 := c631.keep S_681
  have c683 := c632.keep S_681 (ninS ne643 nin0)
  have c684 := c633.keep S_681 (ninS ne643 nin0)
  have c685 := c634.keep S_681
  have c686 := c635.keep S_681 (ninS ne646 nin0)
  have c687 := c636.keep S_681
  have c688 := c637.keep S_681
  have c689 := c638.keep S_681
  have o690 : b614 < b649 := Nat.lt_of_lt_of_le A614.lt (Nat.le_trans E623.1 q652)
  have o691 : b504 < b649 := Nat.lt_trans o642 o690
  have o692 : b649 < b665 := Nat.lt_of_lt_of_le q658.lt lb666
  have o693 : b504 < b665 := Nat.lt_trans o691 o692
  have ne694 : b504 ≠ b665 := Nat.ne_of_lt o693
  have o695 : b524 < b649 := Nat.lt_trans o645 o690
  have o696 : b524 < b665 := Nat.lt_trans o695 o692
  have ne697 : b524 ≠ b665 := Nat.ne_of_lt o696
  refine GoW.cps (own_ci (W := 1) (b := b665) (argsL := [(.ref b674), (.ref b504), (.int kc)]) (rest := [(.ref b665)]) X674 hx hZ hown rfl (hw _ tw276) (hw _ tw277) (hw _ tw278) (hw _ tw274) (by decide) e674 (rm38 l Z a0 hw [] b665 b674 b504 kc wm b524 k525 b277 b342 b417 h674 n0 O676 M_AO c677 g668 c678 c679 c680 c682 c683 c684 c685 c686 c687 c688 c689 ne694 ne697 hr0_kc hr2_kc) rfl (by rw [hml]; rfl) (lenOf pd26 rfl) rfl (Nat.le_of_eq rfl) (hb hby at_291) rfl (by decide)) ?_
  rintro T698 _ L698 X698 ⟨b699, b700, k701, rfl, Nq698, Kq698, q702, q703, q704, q705, q706, q707, q708, q709⟩
  have N698 := Fr.app N647 Nq698
  have sz710 : h0.size ≤ b699 := Nat.le_trans K675.1 q702
  have g711 : n0 ≤ b699 := Nat.le_trans Z0 sz710
  have sz712 : h0.size ≤ b700 := Nat.le_trans K675.1 q703
  have g713 : n0 ≤ b700 := Nat.le_trans Z0 sz712
  have K714 := K675.trans Kq698 (allS (Or.inr sz667) all0)
  have O715 := O676.keep Kq698 (allS g668 all0)
  refine GoW.st (t' := T698.setTop (mkF m 296 #[SI p0, SI p1, SI p2, SI p3, SI (p0 &&& (3 : Int32)), SI ka, SI kb, SI kc, SR b10, SR b35, SR b46, SR b80, SR b125, SR b180, SR b196, SR b232, SR b277, SR b342, SR b417, SR b504, SR b564, SR b614, SR b665, .unset, .unset, .unset] [])) (fun target kt => ?_) ?_
  · refine XS.astore X698.here hx rfl (hb hby at_294) rfl rfl (l' := #[SI p0, SI p1, SI p2, SI p3, SI (p0 &&& (3 : Int32)), SI ka, SI kb, SI kc, SR b10, SR b35, SR b46, SR b80, SR b125, SR b180, SR b196, SR b232, SR b277, SR b342, SR b417, SR b504, SR b564, SR b614, SR b665, .unset, .unset, .unset]) rfl ?_
    exact kt
  obtain ⟨T716, h716, X716, e716, E716, A716, D716, -, st716⟩ := newO X698 hx hZ hown (hw _ tw45) (hw _ tw46) (hw _ tw47) rfl (g := (mkF m 296 #[SI p0, SI p1, SI p2, SI p3, SI (p0 &&& (3 : Int32)), SI ka, SI kb, SI kc, SR b10, SR b35, SR b46, SR b80, SR b125, SR b180, SR b196, SR b232, SR b277, SR b342, SR b417, SR b504, SR b564, SR b614, SR b665, .unset, .unset, .unset] [])) rfl (hb hby at_296) (by decide) (by decide)
  obtain ⟨b716, g716⟩ : ∃ z, z = T698.heap.size := ⟨_, rfl⟩
  rw [← g716] at A716 D716 st716
  have lb717 : T698.heap.size ≤ b716 := Nat.le_of_eq g716.symm
  have sz718 : h0.size ≤ b716 := Nat.le_trans K714.1 lb717
  have g719 : n0 ≤ b716 := Nat.le_trans Z0 sz718
  have K720 := K714.ext E716
  have O721 := O715.ext E716
  have F722 : Fld Z h716 b716 sq13 "modCount" "I" (.int 0) := D716 (Or.inl (hw _ tw65)) (ty := .int) (by decide)
  have F723 : Fld Z h716 b716 sq0 sq10 sq2 .null := D716 (Or.inl (hw _ tw68)) (ty := (.array (.object sq1))) (by decide)
  have F724 : Fld Z h716 b716 sq0 "size" "I" (.int 0) := D716 (Or.inl (hw _ tw77)) (ty := .int) (by decide)
  refine GoW.st st716 ?_
  refine GoW.st (t' := T716.setTop (mkF m 300 #[SI p0, SI p1, SI p2, SI p3, SI (p0 &&& (3 : Int32)), SI ka, SI kb, SI kc, SR b10, SR b35, SR b46, SR b80, SR b125, SR b180, SR b196, SR b232, SR b277, SR b342, SR b417, SR b504, SR b564, SR b614, SR b665, .unset, .unset, .unset] [(.ref b716), (.ref b716)])) (fun target kt => ?_) ?_
  · refine XS.dup X716.here hx rfl (hb hby at_299) rfl rfl ?_
    exact kt
  refine GoW.cps (own_ci (W := 1) (b := b716) (argsL := []) (rest := [(.ref b716)]) X716 hx hZ hown rfl (hw _ tw48) (hw _ tw49) (hw _ tw50) (hw _ tw47) (by decide) e716 (rm6 l Z a0 hw [] b716 wd kd h716 n0 O721 S_DE E_wd V_wd A716 g719 F723 F724 F722) rfl (by rw [hml]; rfl) (lenOf pd0 rfl) rfl (Nat.le_of_eq rfl) (hb hby at_300) rfl (by decide)) ?_
  rintro T725 _ L725 X725 ⟨rfl, Nq725, Kq725, q726, q727, q728, q729⟩
  have N725 := Fr.app N698 Nq725
  have K730 := K720.trans Kq725 (allS (Or.inr sz718) all0)
  have O731 := O721.keep Kq725 (allS g719 all0)
  refine GoW.st (t' := T725.setTop (mkF m 305 #[SI p0, SI p1, SI p2, SI p3, SI (p0 &&& (3 : Int32)), SI ka, SI kb, SI kc, SR b10, SR b35, SR b46, SR b80, SR b125, SR b180, SR b196, SR b232, SR b277, SR b342, SR b417, SR b504, SR b564, SR b614, SR b665, SR b716, .unset, .unset] [])) (fun target kt => ?_) ?_
  · refine XS.astore X725.here hx rfl (hb hby at_303) rfl rfl (l' := #[SI p0, SI p1, SI p2, SI p3, SI (p0 &&& (3 : Int32)), SI ka, SI kb, SI kc, SR b10, SR b35, SR b46, SR b80, SR b125, SR b180, SR b196, SR b232, SR b277, SR b342, SR b417, SR b504, SR b564, SR b614, SR b665, SR b716, .unset, .unset]) rfl ?_
    exact kt
  rcases (own_and3 p0 : (p0 &&& (3 : Int32)) = (0 : Int32) ∨ (p0 &&& (3 : Int32)) = (1 : Int32) ∨ (p0 &&& (3 : Int32)) = (2 : Int32) ∨ (p0 &&& (3 : Int32)) = (3 : Int32)) with hk | hk | hk | hk
  · have hk_ := hk
    show GoW _ _ _ _ _ _ _ (T725.setTop (mkF m 305 #[SI p0, SI p1, SI p2, SI p3, SI (p0 &&& (3 : Int32)), SI ka, SI kb, SI kc, SR b10, SR b35, SR b46, SR b80, SR b125, SR b180, SR b196, SR b232, SR b277, SR b342, SR b417, SR b504, SR b564, SR b614, SR b665, SR b716, .unset, .unset] []))
    rw [hk]
    show GoW _ _ _ _ _ _ _ (T725.setTop (mkF m 305 _ []))
    refine GoW.st (t' := T725.setTop (mkF m 346 #[SI p0, SI p1, SI p2, SI p3, SI 0, SI ka, SI kb, SI kc, SR b10, SR b35, SR b46, SR b80, SR b125, SR b180, SR b196, SR b232, SR b277, SR b342, SR b417, SR b504, SR b564, SR b614, SR b665, SR b716, .unset, .unset] [])) (fun target kt => ?_) ?_
    · refine XS.iload X725.here hx rfl (hb hby at_305) rfl ?_
      refine XS.ifYes X725.here hx rfl (pc0 := 307) (pc' := 318) rfl (hb hby at_307) rfl ((if0 _ _).trans (flt (by decide : ¬ ((0 : Int32) < (0 : Int32)))).2.2.2) (by decide) (by decide) ?_
      refine XS.iload X725.here hx rfl (hb hby at_318) rfl ?_
      refine XS.iconst X725.here hx rfl (hb hby at_320) ?_
      refine XS.icmpYes X725.here hx rfl (pc0 := 321) (pc' := 332) rfl (hb hby at_321) rfl (flt (by decide : ¬ ((1 : Int32) < (0 : Int32)))).2.2.2 (by decide) (by decide) ?_
      refine XS.iload X725.here hx rfl (hb hby at_332) rfl ?_
      refine XS.iconst X725.here hx rfl (hb hby at_334) ?_
      refine XS.icmpYes X725.here hx rfl (pc0 := 335) (pc' := 346) rfl (hb hby at_335) rfl (flt (by decide : ¬ ((2 : Int32) < (0 : Int32)))).2.2.2 (by decide) (by decide) ?_
      exact kt
    obtain ⟨T732, h732, X732, e732, E732, A732, D732, -, st732⟩ := newO X725 hx hZ hown (hw _ tw288) (hw _ tw289) (hw _ tw290) rfl (g := (mkF m 346 #[SI p0, SI p1, SI p2, SI p3, SI 0, SI ka, SI kb, SI kc, SR b10, SR b35, SR b46, SR b80, SR b125, SR b180, SR b196, SR b232, SR b277, SR b342, SR b417, SR b504, SR b564, SR b614, SR b665, SR b716, .unset, .unset] [])) rfl (hb hby at_346) (by decide) (by decide)
    obtain ⟨b732, g732⟩ : ∃ z, z = T725.heap.size := ⟨_, rfl⟩
    rw [← g732] at A732 D732 st732
    have lb733 : T725.heap.size ≤ b732 := Nat.le_of_eq g732.symm
    have sz734 : h0.size ≤ b732 := Nat.le_trans K730.1 lb733
    have g735 : n0 ≤ b732 := Nat.le_trans Z0 sz734
    have K736 := K730.ext E732
    have O737 := O731.ext E732
    have F738 : Fld Z h732 b732 sq5 "persons" sq11 .null := D732 (Or.inr (hw _ tw296)) (ty := (.object sq3)) (by decide)
    have F739 : Fld Z h732 b732 sq5 "departures" "[[I" .null := D732 (Or.inr (hw _ tw301)) (ty := (.array (.array .int))) (by decide)
    have F740 : Fld Z h732 b732 sq5 "arrivals" "[[I" .null := D732 (Or.inr (hw _ tw303)) (ty := (.array (.array .int))) (by decide)
    have F741 : Fld Z h732 b732 sq5 "departed" "[I" .null := D732 (Or.inr (hw _ tw306)) (ty := (.array .int)) (by decide)
    refine GoW.st st732 ?_
    refine GoW.st (t' := T732.setTop (mkF m 352 #[SI p0, SI p1, SI p2, SI p3, SI 0, SI ka, SI kb, SI kc, SR b10, SR b35, SR b46, SR b80, SR b125, SR b180, SR b196, SR b232, SR b277, SR b342, SR b417, SR b504, SR b564, SR b614, SR b665, SR b716, .unset, .unset] [(.ref b716), (.ref b732), (.ref b732)])) (fun target kt => ?_) ?_
    · refine XS.dup X732.here hx rfl (hb hby at_349) rfl rfl ?_
      refine XS.aload X732.here hx rfl (hb hby at_350) rfl rfl ?_
      exact kt
    have c742 := q726.ext E732
    have c743 := q727.ext E732
    have c744 := q728.ext E732
    have o745 : b716 < b732 := Nat.lt_of_lt_of_le A716.lt (Nat.le_trans Kq725.1 lb733)
    have ne746 : b716 ≠ b732 := Nat.ne_of_lt o745
    refine GoW.cps (own_ci (W := 1) (b := b732) (argsL := [(.ref b716)]) (rest := [(.ref b732)]) X732 hx hZ hown rfl (hw _ tw291) (hw _ tw292) (hw _ tw293) (hw _ tw290) (by decide) e732 (rm39_0 l Z a0 hw [] b732 b716 we wl wle kle wd kd h732 n0 O737 S_EM E_wl F_wl V_wle S_DE E_wd V_wd A732 g735 F738 F739 F740 F741 c742 c743 c744 ne746) rfl (by rw [hml]; rfl) (lenOf pd27 rfl) rfl (Nat.le_of_eq rfl) (hb hby at_352) rfl (by decide)) ?_
    rintro T747 _ L747 X747 ⟨b748, k749, rfl, Nq747, Kq747, q750, q751, q752⟩
    have N747 := Fr.app N725 Nq747
    have K753 := K736.trans Kq747 (allS (Or.inr sz734) all0)
    have O754 := O737.keep Kq747 (allS g735 all0)
    refine GoW.st (t' := T747.setTop (mkF m 403 #[SI p0, SI p1, SI p2, SI p3, SI 0, SI ka, SI kb, SI kc, SR b10, SR b35, SR b46, SR b80, SR b125, SR b180, SR b196, SR b232, SR b277, SR b342, SR b417, SR b504, SR b564, SR b614, SR b665, SR b716, SR b732, SI 0] [(.ref b732)])) (fun target kt => ?_) ?_
    · refine XS.astore X747.here hx rfl (hb hby at_355) rfl rfl (l' := #[SI p0, SI p1, SI p2, SI p3, SI 0, SI ka, SI kb, SI kc, SR b10, SR b35, SR b46, SR b80, SR b125, SR b180, SR b196, SR b232, SR b277, SR b342, SR b417, SR b504, SR b564, SR b614, SR b665, SR b716, SR b732, .unset]) rfl ?_
      refine XS.iconst X747.here hx rfl (hb hby at_357) ?_
      refine XS.istore X747.here hx rfl (hb hby at_358) rfl (l' := #[SI p0, SI p1, SI p2, SI p3, SI 0, SI ka, SI kb, SI kc, SR b10, SR b35, SR b46, SR b80, SR b125, SR b180, SR b196, SR b232, SR b277, SR b342, SR b417, SR b504, SR b564, SR b614, SR b665, SR b716, SR b732, SI 0]) rfl ?_
      refine XS.iload X747.here hx rfl (hb hby at_360) rfl ?_
      refine XS.ifYes X747.here hx rfl (pc0 := 362) (pc' := 373) rfl (hb hby at_362) rfl ((if0 _ _).trans (flt (by decide : ¬ ((0 : Int32) < (0 : Int32)))).2.2.2) (by decide) (by decide) ?_
      refine XS.iload X747.here hx rfl (hb hby at_373) rfl ?_
      refine XS.iconst X747.here hx rfl (hb hby at_375) ?_
      refine XS.icmpYes X747.here hx rfl (pc0 := 376) (pc' := 387) rfl (hb hby at_376) rfl (flt (by decide : ¬ ((1 : Int32) < (0 : Int32)))).2.2.2 (by decide) (by decide) ?_
      refine XS.iload X747.here hx rfl (hb hby at_387) rfl ?_
      refine XS.iconst X747.here hx rfl (hb hby at_389) ?_
      refine XS.icmpYes X747.here hx rfl (pc0 := 390) (pc' := 401) rfl (hb hby at_390) rfl (flt (by decide : ¬ ((2 : Int32) < (0 : Int32)))).2.2.2 (by decide) (by decide) ?_
      refine XS.aload X747.here hx rfl (hb hby at_401) rfl rfl ?_
      exact kt
    refine GoW.cps (own_cw (W := 0) (b := b732) (argsL := []) (rest := []) X747 hx hZ hown (hw _ tw307) (hw _ tw308) (hw _ tw310) (hw _ tw309) (hw _ tw311) (hw _ tw290) (by decide) rfl q750 (rm40_0 l Z a0 hw [] b732 b748 k749 T747.heap n0 O754  q751 q752) rfl (by rw [hml]; rfl) (lenOf pd18 rfl) rfl (Nat.le_of_eq rfl) (hb hby at_403) rfl (by decide)) ?_
    rintro T755 _ L755 X755 ⟨rfl, Nq755, eq755⟩
    have N755 := Fr.app N747 Nq755
    refine GoW.st (t' := T755.setTop (mkF m 416 #[SI p0, SI p1, SI p2, SI p3, SI 0, SI ka, SI kb, SI kc, SR b10, SR b35, SR b46, SR b80, SR b125, SR b180, SR b196, SR b232, SR b277, SR b342, SR b417, SR b504, SR b564, SR b614, SR b665, SR b716, SR b732, SI 0] [(.int 1)])) (fun target kt => ?_) ?_
    · refine XS.iload X755.here hx rfl (hb hby at_406) rfl ?_
      refine XS.icmpNo X755.here hx rfl (hb hby at_408) rfl (teq (by decide : (0 : Int32) = (0 : Int32))).2 ?_
      refine XS.iconst X755.here hx rfl (hb hby at_411) ?_
      refine XS.goto X755.here hx rfl (pc0 := 412) (pc' := 416) rfl (hb hby at_412) (by decide) (by decide) ?_
      exact kt
    refine GoW.ret X755 hSi (by rw [eq755]; exact (Nat.le_trans hk674 (Nat.le_trans (Nat.le_trans (Nat.le_trans (Nat.le_trans Kq698.1 E716.1) Kq725.1) E732.1) Kq747.1))) (v := some (.int 1)) (fun h => by rw [hret] at h; cases h) hlk (fun fs hr => retN X755 hx (t := .boolean) hret (by simp) (hb hby at_416) hr) ?_ (by decide) (by decide)
    show Q0 Z p0 p1 p2 p3 wd kd wm we wl wle kle wo h0 n0 _ T755.heap _
    rw [eq755]
    exact ⟨rfl, N755, K753⟩
  · have hk_ := hk
    show GoW _ _ _ _ _ _ _ (T725.setTop (mkF m 305 #[SI p0, SI p1, SI p2, SI p3, SI (p0 &&& (3 : Int32)), SI ka, SI kb, SI kc, SR b10, SR b35, SR b46, SR b80, SR b125, SR b180, SR b196, SR b232, SR b277, SR b342, SR b417, SR b504, SR b564, SR b614, SR b665, SR b716, .unset, .unset] []))
    rw [hk]
    show GoW _ _ _ _ _ _ _ (T725.setTop (mkF m 305 _ []))
    refine GoW.st (t' := T725.setTop (mkF m 314 #[SI p0, SI p1, SI p2, SI p3, SI 1, SI ka, SI kb, SI kc, SR b10, SR b35, SR b46, SR b80, SR b125, SR b180, SR b196, SR b232, SR b277, SR b342, SR b417, SR b504, SR b564, SR b614, SR b665, SR b716, .unset, .unset] [(.ref b564), (.ref b716)])) (fun target kt => ?_) ?_
    · refine XS.iload X725.here hx rfl (hb hby at_305) rfl ?_
      refine XS.ifNo X725.here hx rfl (hb hby at_307) rfl ((if0 _ _).trans (tlt (by decide : (0 : Int32) < (1 : Int32))).2.2.2) ?_
      refine XS.aload X725.here hx rfl (hb hby at_310) rfl rfl ?_
      refine XS.aload X725.here hx rfl (hb hby at_312) rfl rfl ?_
      exact kt
    have S_756 := (((((Keep.refl T596.heap []).ext E614).ext E623).trans Kq647 (allS (Or.inr lb615) all0)).ext E665).ext E674
    have S_757 : Keep T596.heap T725.heap [] := (((S_756.trans Kq698 (allS (Or.inr (Nat.le_trans (Nat.le_trans (Nat.le_trans E614.1 E623.1) Kq647.1) lb666)) all0)).ext E716).trans Kq725 (allS (Or.inr (Nat.le_trans (Nat.le_trans S_756.1 Kq698.1) lb717)) all0))
    have c758 := q602.keep S_757
    refine GoW.cps (own_cw (W := 0) (b := b716) (argsL := [(.ref b564)]) (rest := []) X725 hx hZ hown (hw _ tw69) (hw _ tw70) (hw _ tw72) (hw _ tw71) (hw _ tw73) (hw _ tw47) (by decide) rfl q726 (rm9_0 l Z a0 hw [] b716 b564 wd kd (0 : Int32) T725.heap n0 O731 S_DE E_wd V_wd q726 q727 q728 q729 g719 (Ins.of_exa c758 (hw _ tw312))) rfl (by rw [hml]; rfl) (lenOf pd24 rfl) rfl (Nat.le_of_eq rfl) (hb hby at_314) rfl (by decide)) ?_
    rintro T759 _ L759 X759 ⟨b760, k761, rfl, Nq759, Kq759, q762, q763, q764, q765, q766, q767, q768, q769⟩
    have N759 := Fr.app N725 Nq759
    have sz770 : h0.size ≤ b760 := Nat.le_trans K730.1 q762
    have g771 : n0 ≤ b760 := Nat.le_trans Z0 sz770
    have K772 := K730.trans Kq759 (allS (Or.inr sz718) all0)
    have O773 := O731.keep Kq759 (allS g719 all0)
    refine GoW.st (t' := T759.setTop (mkF m 346 #[SI p0, SI p1, SI p2, SI p3, SI 1, SI ka, SI kb, SI kc, SR b10, SR b35, SR b46, SR b80, SR b125, SR b180, SR b196, SR b232, SR b277, SR b342, SR b417, SR b504, SR b564, SR b614, SR b665, SR b716, .unset, .unset] [])) (fun target kt => ?_) ?_
    · refine XS.pop X759.here hx rfl (hb hby at_317) rfl rfl ?_
      refine XS.iload X759.here hx rfl (hb hby at_318) rfl ?_
      refine XS.iconst X759.here hx rfl (hb hby at_320) ?_
      refine XS.icmpYes X759.here hx rfl (pc0 := 321) (pc' := 332) rfl (hb hby at_321) rfl (flt (by decide : ¬ ((1 : Int32) < (1 : Int32)))).2.2.2 (by decide) (by decide) ?_
      refine XS.iload X759.here hx rfl (hb hby at_332) rfl ?_
      refine XS.iconst X759.here hx rfl (hb hby at_334) ?_
      refine XS.icmpYes X759.here hx rfl (pc0 := 335) (pc' := 346) rfl (hb hby at_335) rfl (flt (by decide : ¬ ((2 : Int32) < (1 : Int32)))).2.2.2 (by decide) (by decide) ?_
      exact kt
    obtain ⟨T774, h774, X774, e774, E774, A774, D774, -, st774⟩ := newO X759 hx hZ hown (hw _ tw288) (hw _ tw289) (hw _ tw290) rfl (g := (mkF m 346 #[SI p0, SI p1, SI p2, SI p3, SI 1, SI ka, SI kb, SI kc, SR b10, SR b35, SR b46, SR b80, SR b125, SR b180, SR b196, SR b232, SR b277, SR b342, SR b417, SR b504, SR b564, SR b614, SR b665, SR b716, .unset, .unset] [])) rfl (hb hby at_346) (by decide) (by decide)
    obtain ⟨b774, g774⟩ : ∃ z, z = T759.heap.size := ⟨_, rfl⟩
    rw [← g774] at A774 D774 st774
    have lb775 : T759.heap.size ≤ b774 := Nat.le_of_eq g774.symm
    have sz776 : h0.size ≤ b774 := Nat.le_trans K772.1 lb775
    have g777 : n0 ≤ b774 := Nat.le_trans Z0 sz776
    have K778 := K772.ext E774
    have O779 := O773.ext E774
    have F780 : Fld Z h774 b774 sq5 "persons" sq11 .null := D774 (Or.inr (hw _ tw296)) (ty := (.object sq3)) (by decide)
    have F781 : Fld Z h774 b774 sq5 "departures" "[[I" .null := D774 (Or.inr (hw _ tw301)) (ty := (.array (.array .int))) (by decide)
    have F782 : Fld Z h774 b774 sq5 "arrivals" "[[I" .null := D774 (Or.inr (hw _ tw303)) (ty := (.array (.array .int))) (by decide)
    have F783 : Fld Z h774 b774 sq5 "departed" "[I" .null := D774 (Or.inr (hw _ tw306)) (ty := (.array .int)) (by decide)
    refine GoW.st st774 ?_
    refine GoW.st (t' := T774.setTop (mkF m 352 #[SI p0, SI p1, SI p2, SI p3, SI 1, SI ka, SI kb, SI kc, SR b10, SR b35, SR b46, SR b80, SR b125, SR b180, SR b196, SR b232, SR b277, SR b342, SR b417, SR b504, SR b564, SR b614, SR b665, SR b716, .unset, .unset] [(.ref b716), (.ref b774), (.ref b774)])) (fun target kt => ?_) ?_
    · refine XS.dup X774.here hx rfl (hb hby at_349) rfl rfl ?_
      refine XS.aload X774.here hx rfl (hb hby at_350) rfl rfl ?_
      exact kt
    have c784 := q764.ext E774
    have c785 := q765.ext E774
    have c786 := q766.ext E774
    have c787 := q768.ext E774
    have c788 := q769.ext E774
    have S_789 : Keep T725.heap h774 [b716] := (((Keep.refl T725.heap [b716]).trans Kq759 (allS (Or.inl mI0) all0)).ext E774)
    have c790 := c758.keep S_789
    have S_791 : Keep T596.heap h774 [] := (S_757.trans S_789 (allS (Or.inr (Nat.le_trans (Nat.le_trans (Nat.le_trans (Nat.le_trans (Nat.le_trans (Nat.le_trans E614.1 E623.1) Kq647.1) E665.1) E674.1) Kq698.1) lb717)) all0))
    have c792 := q603.keep S_791 nin0
    have c793 := q604.keep S_791 nin0
    have c794 := q605.keep S_791
    have c795 := q606.keep S_791 nin0
    have c796 := q607.keep S_791 nin0
    have S_797 := (((Keep.refl h674 [b665]).trans Kq698 (allS (Or.inl mI0) all0)).ext E716).trans Kq725 (allS (Or.inr (Nat.le_trans Kq698.1 lb717)) all0)
    have S_798 : Keep h674 h774 [b665] := (S_797.trans S_789 (allS (Or.inr (Nat.le_trans Kq698.1 lb717)) all0))
    have c799 := c687.keep S_798
    have c800 := c688.keep S_798
    have c801 := c689.keep S_798
    have S_802 := ((((S_521.trans Kq523 (allS (Or.inr (Nat.le_trans (Nat.le_trans (Nat.le_trans (Nat.le_trans E342.1 Kq405.1) E417.1) Kq492.1) lb505)) all0)).trans Kq543 (allS (Or.inr (Nat.le_trans (Nat.le_trans (Nat.le_trans (Nat.le_trans E342.1 Kq405.1) E417.1) Kq492.1) lb505)) (allS (Or.inr (Nat.le_trans S_521.1 q526)) all0))).trans Kq555 (allS (Or.inr (Nat.le_trans (Nat.le_trans (Nat.le_trans (Nat.le_trans E342.1 Kq405.1) E417.1) Kq492.1) lb505)) (allS (Or.inr (Nat.le_trans S_521.1 q526)) all0))).ext E564).ext E573
    have S_803 : Keep T337.heap h774 [] := ((S_802.trans Kq596 (allS (Or.inr (Nat.le_trans (Nat.le_trans S_521.1 (Nat.le_trans (Nat.le_trans Kq523.1 Kq543.1) Kq555.1)) lb565)) all0)).trans S_791 all0)
    have c804 := q339.keep S_803 nin0
    have S_805 := (((S_539.trans Kq543 (allS (Or.inr (Nat.le_trans (Nat.le_trans E417.1 Kq492.1) lb505)) (allS (Or.inr (Nat.le_trans (Nat.le_trans (Nat.le_trans (Nat.le_trans E417.1 Kq492.1) E504.1) Kq513.1) q526)) all0))).trans Kq555 (allS (Or.inr (Nat.le_trans (Nat.le_trans E417.1 Kq492.1) lb505)) (allS (Or.inr (Nat.le_trans (Nat.le_trans (Nat.le_trans (Nat.le_trans E417.1 Kq492.1) E504.1) Kq513.1) q526)) all0))).ext E564).ext E573
    have S_806 : Keep T405.heap h774 [] := ((S_805.trans Kq596 (allS (Or.inr (Nat.le_trans (Nat.le_trans S_539.1 (Nat.le_trans Kq543.1 Kq555.1)) lb565)) all0)).trans S_791 all0)
    have c807 := q409.keep S_806 nin0
    have S_808 : Keep T492.heap h774 [] := (((((S_553.trans Kq555 (allS (Or.inr lb505) (allS (Or.inr (Nat.le_trans (Nat.le_trans E504.1 Kq513.1) q526)) all0))).ext E564).ext E573).trans Kq596 (allS (Or.inr (Nat.le_trans (Nat.le_trans S_553.1 Kq555.1) lb565)) all0)).trans S_791 all0)
    have c809 := q496.keep S_808 nin0
    have c810 := q410.keep S_806
    have c811 := q497.keep S_808
    have c812 := q412.keep S_806 nin0
    have c813 := q499.keep S_808 nin0
    have ne814 : we ≠ b35 := Nat.ne_of_lt (Nat.lt_of_lt_of_le (Nat.lt_of_lt_of_eq E_we.lt O0.1) g38)
    have o815 : b716 < b760 := Nat.lt_of_lt_of_le A716.lt (Nat.le_trans Kq725.1 q762)
    have o816 : b760 < b774 := Nat.lt_of_lt_of_le q768.lt lb775
    have o817 : b716 < b774 := Nat.lt_trans o815 o816
    have ne818 : b716 ≠ b774 := Nat.ne_of_lt o817
    have ne819 : b760 ≠ b774 := Nat.ne_of_lt o816
    have o820 : b277 < b406 := Nat.lt_trans o384 o469
    have o821 : b277 < b417 := Nat.lt_trans o820 o471
    have o822 : b417 < b493 := Nat.lt_of_lt_of_le A417.lt q495
    have o823 : b277 < b493 := Nat.lt_trans o821 o822
    have o824 : b493 < b504 := Nat.lt_of_lt_of_le q497.lt lb505
    have o825 : b277 < b504 := Nat.lt_trans o823 o824
    have o826 : b277 < b524 := Nat.lt_trans o825 o541
    have o827 : b277 < b564 := Nat.lt_trans o826 o592
    have o828 : b277 < b598 := Nat.lt_trans o827 o639
    have o829 : b277 < b614 := Nat.lt_trans o828 o641
    have o830 : b277 < b649 := Nat.lt_trans o829 o690
    have o831 : b277 < b665 := Nat.lt_trans o830 o692
    have o832 : b665 < b700 := Nat.lt_of_lt_of_le A665.lt (Nat.le_trans E674.1 q703)
    have o833 : b277 < b700 := Nat.lt_trans o831 o832
    have o834 : b700 < b716 := Nat.lt_of_lt_of_le q709.lt lb717
    have o835 : b277 < b716 := Nat.lt_trans o833 o834
    have o836 : b277 < b760 := Nat.lt_trans o835 o815
    have o837 : b277 < b774 := Nat.lt_trans o836 o816
    have ne838 : b277 ≠ b774 := Nat.ne_of_lt o837
    have o839 : b342 < b417 := Nat.lt_trans o469 o471
    have o840 : b342 < b493 := Nat.lt_trans o839 o822
    have o841 : b342 < b504 := Nat.lt_trans o840 o824
    have o842 : b342 < b524 := Nat.lt_trans o841 o541
    have o843 : b342 < b564 := Nat.lt_trans o842 o592
    have o844 : b342 < b598 := Nat.lt_trans o843 o639
    have o845 : b342 < b614 := Nat.lt_trans o844 o641
    have o846 : b342 < b649 := Nat.lt_trans o845 o690
    have o847 : b342 < b665 := Nat.lt_trans o846 o692
    have o848 : b342 < b700 := Nat.lt_trans o847 o832
    have o849 : b342 < b716 := Nat.lt_trans o848 o834
    have o850 : b342 < b760 := Nat.lt_trans o849 o815
    have o851 : b342 < b774 := Nat.lt_trans o850 o816
    have ne852 : b342 ≠ b774 := Nat.ne_of_lt o851
    have o853 : b417 < b504 := Nat.lt_trans o822 o824
    have o854 : b417 < b524 := Nat.lt_trans o853 o541
    have o855 : b417 < b564 := Nat.lt_trans o854 o592
    have o856 : b417 < b598 := Nat.lt_trans o855 o639
    have o857 : b417 < b614 := Nat.lt_trans o856 o641
    have o858 : b417 < b649 := Nat.lt_trans o857 o690
    have o859 : b417 < b665 := Nat.lt_trans o858 o692
    have o860 : b417 < b700 := Nat.lt_trans o859 o832
    have o861 : b417 < b716 := Nat.lt_trans o860 o834
    have o862 : b417 < b760 := Nat.lt_trans o861 o815
    have o863 : b417 < b774 := Nat.lt_trans o862 o816
    have ne864 : b417 ≠ b774 := Nat.ne_of_lt o863
    have o865 : b406 < b493 := Nat.lt_trans o471 o822
    have o866 : b406 < b504 := Nat.lt_trans o865 o824
    have o867 : b406 < b524 := Nat.lt_trans o866 o541
    have o868 : b406 < b564 := Nat.lt_trans o867 o592
    have o869 : b406 < b598 := Nat.lt_trans o868 o639
    have o870 : b406 < b614 := Nat.lt_trans o869 o641
    have o871 : b406 < b649 := Nat.lt_trans o870 o690
    have o872 : b406 < b665 := Nat.lt_trans o871 o692
    have o873 : b406 < b700 := Nat.lt_trans o872 o832
    have o874 : b406 < b716 := Nat.lt_trans o873 o834
    have o875 : b406 < b760 := Nat.lt_trans o874 o815
    have o876 : b406 < b774 := Nat.lt_trans o875 o816
    have ne877 : b406 ≠ b774 := Nat.ne_of_lt o876
    have o878 : b493 < b524 := Nat.lt_trans o824 o541
    have o879 : b493 < b564 := Nat.lt_trans o878 o592
    have o880 : b493 < b598 := Nat.lt_trans o879 o639
    have o881 : b493 < b614 := Nat.lt_trans o880 o641
    have o882 : b493 < b649 := Nat.lt_trans o881 o690
    have o883 : b493 < b665 := Nat.lt_trans o882 o692
    have o884 : b493 < b700 := Nat.lt_trans o883 o832
    have o885 : b493 < b716 := Nat.lt_trans o884 o834
    have o886 : b493 < b760 := Nat.lt_trans o885 o815
    have o887 : b493 < b774 := Nat.lt_trans o886 o816
    have ne888 : b493 ≠ b774 := Nat.ne_of_lt o887
    have o889 : b564 < b614 := Nat.lt_trans o639 o641
    have o890 : b564 < b649 := Nat.lt_trans o889 o690
    have o891 : b564 < b665 := Nat.lt_trans o890 o692
    have o892 : b564 < b700 := Nat.lt_trans o891 o832
    have o893 : b564 < b716 := Nat.lt_trans o892 o834
    have o894 : b564 < b760 := Nat.lt_trans o893 o815
    have o895 : b564 < b774 := Nat.lt_trans o894 o816
    have ne896 : b564 ≠ b774 := Nat.ne_of_lt o895
    have o897 : b597 < b614 := Nat.lt_of_lt_of_le q605.lt lb615
    have o898 : b597 < b649 := Nat.lt_trans o897 o690
    have o899 : b597 < b665 := Nat.lt_trans o898 o692
    have o900 : b597 < b700 := Nat.lt_trans o899 o832
    have o901 : b597 < b716 := Nat.lt_trans o900 o834
    have o902 : b597 < b760 := Nat.lt_trans o901 o815
    have o903 : b597 < b774 := Nat.lt_trans o902 o816
    have ne904 : b597 ≠ b774 := Nat.ne_of_lt o903
    have o905 : b598 < b649 := Nat.lt_trans o641 o690
    have o906 : b598 < b665 := Nat.lt_trans o905 o692
    have o907 : b598 < b700 := Nat.lt_trans o906 o832
    have o908 : b598 < b716 := Nat.lt_trans o907 o834
    have o909 : b598 < b760 := Nat.lt_trans o908 o815
    have o910 : b598 < b774 := Nat.lt_trans o909 o816
    have ne911 : b598 ≠ b774 := Nat.ne_of_lt o910
    refine GoW.cps (own_ci (W := 1) (b := b774) (argsL := [(.ref b716)]) (rest := [(.ref b774)]) X774 hx hZ hown rfl (hw _ tw291) (hw _ tw292) (hw _ tw293) (hw _ tw290) (by decide) e774 (rm39_1 l Z a0 hw [] b774 b716 we wl wle kle b277 b342 b417 b406 b493 b35 b564 b597 b598 k599 ka b760 k761 h774 n0 O779 S_EM E_wl F_wl V_wle A774 g777 F780 F781 F782 F783 c784 c785 c786 c787 c788 c790 c792 c793 c794 c795 c796 hr0_ka hr2_ka c799 c800 c801 c804 c807 c809 c810 c811 c812 c813 (Ne.symm ne814) ne818 ne819 ne838 ne852 ne864 ne877 ne888 ne896 ne904 ne911) rfl (by rw [hml]; rfl) (lenOf pd27 rfl) rfl (Nat.le_of_eq rfl) (hb hby at_352) rfl (by decide)) ?_
    rintro T912 _ L912 X912 ⟨b913, k914, b915, v916, rfl, Nq912, Kq912, q917, q918, q919, q920, q921⟩
    have N912 := Fr.app N759 Nq912
    have K922 := K778.trans Kq912 (allS (Or.inr sz776) all0)
    have O923 := O779.keep Kq912 (allS g777 all0)
    refine GoW.st (t' := T912.setTop (mkF m 360 #[SI p0, SI p1, SI p2, SI p3, SI 1, SI ka, SI kb, SI kc, SR b10, SR b35, SR b46, SR b80, SR b125, SR b180, SR b196, SR b232, SR b277, SR b342, SR b417, SR b504, SR b564, SR b614, SR b665, SR b716, SR b774, SI 0] [])) (fun target kt => ?_) ?_
    · refine XS.astore X912.here hx rfl (hb hby at_355) rfl rfl (l' := #[SI p0, SI p1, SI p2, SI p3, SI 1, SI ka, SI kb, SI kc, SR b10, SR b35, SR b46, SR b80, SR b125, SR b180, SR b196, SR b232, SR b277, SR b342, SR b417, SR b504, SR b564, SR b614, SR b665, SR b716, SR b774, .unset]) rfl ?_
      refine XS.iconst X912.here hx rfl (hb hby at_357) ?_
      refine XS.istore X912.here hx rfl (hb hby at_358) rfl (l' := #[SI p0, SI p1, SI p2, SI p3, SI 1, SI ka, SI kb, SI kc, SR b10, SR b35, SR b46, SR b80, SR b125, SR b180, SR b196, SR b232, SR b277, SR b342, SR b417, SR b504, SR b564, SR b614, SR b665, SR b716, SR b774, SI 0]) rfl ?_
      exact kt
    have JT : ∀ z_ : Int32, (own_t1 ka) = z_ → GoW p e below s (Q0 Z p0 p1 p2 p3 wd kd wm we wl wle kle wo h0 n0) room_1.cells room_1.slots (T912.setTop (mkF m 401 #[SI p0, SI p1, SI p2, SI p3, SI 1, SI ka, SI kb, SI kc, SR b10, SR b35, SR b46, SR b80, SR b125, SR b180, SR b196, SR b232, SR b277, SR b342, SR b417, SR b504, SR b564, SR b614, SR b665, SR b716, SR b774, SI z_] [])) := by
      intro z_ hz_
      refine GoW.st (t' := T912.setTop (mkF m 403 #[SI p0, SI p1, SI p2, SI p3, SI 1, SI ka, SI kb, SI kc, SR b10, SR b35, SR b46, SR b80, SR b125, SR b180, SR b196, SR b232, SR b277, SR b342, SR b417, SR b504, SR b564, SR b614, SR b665, SR b716, SR b774, SI z_] [(.ref b774)])) (fun target kt => ?_) ?_
      · refine XS.aload X912.here hx rfl (hb hby at_401) rfl rfl ?_
        exact kt
      refine GoW.cps (own_cw (W := 0) (b := b774) (argsL := []) (rest := []) X912 hx hZ hown (hw _ tw307) (hw _ tw308) (hw _ tw310) (hw _ tw309) (hw _ tw311) (hw _ tw290) (by decide) rfl q917 (rm40_1 l Z a0 hw [] b774 b913 k914 b915 v916 ka T912.heap n0 O923  q918 q919 q920 q921 hr0_ka) rfl (by rw [hml]; rfl) (lenOf pd18 rfl) rfl (Nat.le_of_eq rfl) (hb hby at_403) rfl (by decide)) ?_
      rintro T924 _ L924 X924 ⟨rfl, Nq924, eq924⟩
      have N924 := Fr.app N912 Nq924
      refine GoW.st (t' := T924.setTop (mkF m 416 #[SI p0, SI p1, SI p2, SI p3, SI 1, SI ka, SI kb, SI kc, SR b10, SR b35, SR b46, SR b80, SR b125, SR b180, SR b196, SR b232, SR b277, SR b342, SR b417, SR b504, SR b564, SR b614, SR b665, SR b716, SR b774, SI z_] [(.int 1)])) (fun target kt => ?_) ?_
      · refine XS.iload X924.here hx rfl (hb hby at_406) rfl ?_
        refine XS.icmpNo X924.here hx rfl (hb hby at_408) rfl (teq hz_).2 ?_
        refine XS.iconst X924.here hx rfl (hb hby at_411) ?_
        refine XS.goto X924.here hx rfl (pc0 := 412) (pc' := 416) rfl (hb hby at_412) (by decide) (by decide) ?_
        exact kt
      refine GoW.ret X924 hSi (by rw [eq924]; exact (Nat.le_trans hk674 (Nat.le_trans (Nat.le_trans (Nat.le_trans (Nat.le_trans (Nat.le_trans Kq698.1 E716.1) Kq725.1) Kq759.1) E774.1) Kq912.1))) (v := some (.int 1)) (fun h => by rw [hret] at h; cases h) hlk (fun fs hr => retN X924 hx (t := .boolean) hret (by simp) (hb hby at_416) hr) ?_ (by decide) (by decide)
      show Q0 Z p0 p1 p2 p3 wd kd wm we wl wle kle wo h0 n0 _ T924.heap _
      rw [eq924]
      exact ⟨rfl, N924, K922⟩
    refine GoW.st (t' := T912.setTop (mkF m 367 #[SI p0, SI p1, SI p2, SI p3, SI 1, SI ka, SI kb, SI kc, SR b10, SR b35, SR b46, SR b80, SR b125, SR b180, SR b196, SR b232, SR b277, SR b342, SR b417, SR b504, SR b564, SR b614, SR b665, SR b716, SR b774, SI 0] [(.int ka)])) (fun target kt => ?_) ?_
    · refine XS.iload X912.here hx rfl (hb hby at_360) rfl ?_
      refine XS.ifNo X912.here hx rfl (hb hby at_362) rfl ((if0 _ _).trans (tlt (by decide : (0 : Int32) < (1 : Int32))).2.2.2) ?_
      refine XS.iload X912.here hx rfl (hb hby at_365) rfl ?_
      exact kt
    rcases Classical.em (ka = (0 : Int32)) with hc925 | hc925
    · refine GoW.st (t' := T912.setTop (mkF m 401 #[SI p0, SI p1, SI p2, SI p3, SI 1, SI ka, SI kb, SI kc, SR b10, SR b35, SR b46, SR b80, SR b125, SR b180, SR b196, SR b232, SR b277, SR b342, SR b417, SR b504, SR b564, SR b614, SR b665, SR b716, SR b774, SI 0] [])) (fun target kt => ?_) ?_
      · refine XS.ifYes X912.here hx rfl (pc0 := 367) (pc' := 373) rfl (hb hby at_367) rfl ((if0 _ _).trans (teq hc925).1) (by decide) (by decide) ?_
        refine XS.iload X912.here hx rfl (hb hby at_373) rfl ?_
        refine XS.iconst X912.here hx rfl (hb hby at_375) ?_
        refine XS.icmpYes X912.here hx rfl (pc0 := 376) (pc' := 387) rfl (hb hby at_376) rfl (flt (by decide : ¬ ((1 : Int32) < (1 : Int32)))).2.2.2 (by decide) (by decide) ?_
        refine XS.iload X912.here hx rfl (hb hby at_387) rfl ?_
        refine XS.iconst X912.here hx rfl (hb hby at_389) ?_
        refine XS.icmpYes X912.here hx rfl (pc0 := 390) (pc' := 401) rfl (hb hby at_390) rfl (flt (by decide : ¬ ((2 : Int32) < (1 : Int32)))).2.2.2 (by decide) (by decide) ?_
        exact kt
      exact JT _ (by simp [own_t1, hc925])
    · refine GoW.st (t' := T912.setTop (mkF m 401 #[SI p0, SI p1, SI p2, SI p3, SI 1, SI ka, SI kb, SI kc, SR b10, SR b35, SR b46, SR b80, SR b125, SR b180, SR b196, SR b232, SR b277, SR b342, SR b417, SR b504, SR b564, SR b614, SR b665, SR b716, SR b774, SI 1] [])) (fun target kt => ?_) ?_
      · refine XS.ifNo X912.here hx rfl (hb hby at_367) rfl ((if0 _ _).trans (feq hc925).1) ?_
        refine XS.iinc X912.here hx rfl (hb hby at_370) rfl (l' := #[SI p0, SI p1, SI p2, SI p3, SI 1, SI ka, SI kb, SI kc, SR b10, SR b35, SR b46, SR b80, SR b125, SR b180, SR b196, SR b232, SR b277, SR b342, SR b417, SR b504, SR b564, SR b614, SR b665, SR b716, SR b774, SI 1]) rfl ?_
        refine XS.iload X912.here hx rfl (hb hby at_373) rfl ?_
        refine XS.iconst X912.here hx rfl (hb hby at_375) ?_
        refine XS.icmpYes X912.here hx rfl (pc0 := 376) (pc' := 387) rfl (hb hby at_376) rfl (flt (by decide : ¬ ((1 : Int32) < (1 : Int32)))).2.2.2 (by decide) (by decide) ?_
        refine XS.iload X912.here hx rfl (hb hby at_387) rfl ?_
        refine XS.iconst X912.here hx rfl (hb hby at_389) ?_
        refine XS.icmpYes X912.here hx rfl (pc0 := 390) (pc' := 401) rfl (hb hby at_390) rfl (flt (by decide : ¬ ((2 : Int32) < (1 : Int32)))).2.2.2 (by decide) (by decide) ?_
        exact kt
      exact JT _ (by simp [own_t1, hc925])
  · have hk_ := hk
    show GoW _ _ _ _ _ _ _ (T725.setTop (mkF m 305 #[SI p0, SI p1, SI p2, SI p3, SI (p0 &&& (3 : Int32)), SI ka, SI kb, SI kc, SR b10, SR b35, SR b46, SR b80, SR b125, SR b180, SR b196, SR b232, SR b277, SR b342, SR b417, SR b504, SR b564, SR b614, SR b665, SR b716, .unset, .unset] []))
    rw [hk]
    show GoW _ _ _ _ _ _ _ (T725.setTop (mkF m 305 _ []))
    refine GoW.st (t' := T725.setTop (mkF m 314 #[SI p0, SI p1, SI p2, SI p3, SI 2, SI ka, SI kb, SI kc, SR b10, SR b35, SR b46, SR b80, SR b125, SR b180, SR b196, SR b232, SR b277, SR b342, SR b417, SR b504, SR b564, SR b614, SR b665, SR b716, .unset, .unset] [(.ref b564), (.ref b716)])) (fun target kt => ?_) ?_
    · refine XS.iload X725.here hx rfl (hb hby at_305) rfl ?_
      refine XS.ifNo X725.here hx rfl (hb hby at_307) rfl ((if0 _ _).trans (tlt (by decide : (0 : Int32) < (2 : Int32))).2.2.2) ?_
      refine XS.aload X725.here hx rfl (hb hby at_310) rfl rfl ?_
      refine XS.aload X725.here hx rfl (hb hby at_312) rfl rfl ?_
      exact kt
    have S_926 := (((((Keep.refl T596.heap []).ext E614).ext E623).trans Kq647 (allS (Or.inr lb615) all0)).ext E665).ext E674
    have S_927 : Keep T596.heap T725.heap [] := (((S_926.trans Kq698 (allS (Or.inr (Nat.le_trans (Nat.le_trans (Nat.le_trans E614.1 E623.1) Kq647.1) lb666)) all0)).ext E716).trans Kq725 (allS (Or.inr (Nat.le_trans (Nat.le_trans S_926.1 Kq698.1) lb717)) all0))
    have c928 := q602.keep S_927
    refine GoW.cps (own_cw (W := 0) (b := b716) (argsL := [(.ref b564)]) (rest := []) X725 hx hZ hown (hw _ tw69) (hw _ tw70) (hw _ tw72) (hw _ tw71) (hw _ tw73) (hw _ tw47) (by decide) rfl q726 (rm9_0 l Z a0 hw [] b716 b564 wd kd (0 : Int32) T725.heap n0 O731 S_DE E_wd V_wd q726 q727 q728 q729 g719 (Ins.of_exa c928 (hw _ tw312))) rfl (by rw [hml]; rfl) (lenOf pd24 rfl) rfl (Nat.le_of_eq rfl) (hb hby at_314) rfl (by decide)) ?_
    rintro T929 _ L929 X929 ⟨b930, k931, rfl, Nq929, Kq929, q932, q933, q934, q935, q936, q937, q938, q939⟩
    have N929 := Fr.app N725 Nq929
    have sz940 : h0.size ≤ b930 := Nat.le_trans K730.1 q932
    have g941 : n0 ≤ b930 := Nat.le_trans Z0 sz940
    have K942 := K730.trans Kq929 (allS (Or.inr sz718) all0)
    have O943 := O731.keep Kq929 (allS g719 all0)
    refine GoW.st (t' := T929.setTop (mkF m 328 #[SI p0, SI p1, SI p2, SI p3, SI 2, SI ka, SI kb, SI kc, SR b10, SR b35, SR b46, SR b80, SR b125, SR b180, SR b196, SR b232, SR b277, SR b342, SR b417, SR b504, SR b564, SR b614, SR b665, SR b716, .unset, .unset] [(.ref b614), (.ref b716)])) (fun target kt => ?_) ?_
    · refine XS.pop X929.here hx rfl (hb hby at_317) rfl rfl ?_
      refine XS.iload X929.here hx rfl (hb hby at_318) rfl ?_
      refine XS.iconst X929.here hx rfl (hb hby at_320) ?_
      refine XS.icmpNo X929.here hx rfl (hb hby at_321) rfl (tlt (by decide : (1 : Int32) < (2 : Int32))).2.2.2 ?_
      refine XS.aload X929.here hx rfl (hb hby at_324) rfl rfl ?_
      refine XS.aload X929.here hx rfl (hb hby at_326) rfl rfl ?_
      exact kt
    have S_944 := ((((Keep.refl T647.heap []).ext E665).ext E674).trans Kq698 (allS (Or.inr lb666) all0)).ext E716
    have S_945 : Keep T647.heap T929.heap [] := ((S_944.trans Kq725 (allS (Or.inr (Nat.le_trans (Nat.le_trans (Nat.le_trans E665.1 E674.1) Kq698.1) lb717)) all0)).trans Kq929 (allS (Or.inr (Nat.le_trans (Nat.le_trans (Nat.le_trans E665.1 E674.1) Kq698.1) lb717)) all0))
    have c946 := q653.keep S_945
    have o947 : b716 < b930 := Nat.lt_of_lt_of_le A716.lt (Nat.le_trans Kq725.1 q932)
    have ne948 : b716 ≠ b930 := Nat.ne_of_lt o947
    refine GoW.cps (own_cw (W := 0) (b := b716) (argsL := [(.ref b614)]) (rest := []) X929 hx hZ hown (hw _ tw69) (hw _ tw70) (hw _ tw72) (hw _ tw71) (hw _ tw73) (hw _ tw47) (by decide) rfl q934 (rm9_1 l Z a0 hw [] b716 b614 b930 k931 b564 ((0 : Int32) + (1 : Int32)) T929.heap n0 O943  q934 q935 q936 q937 q938 q939 g719 g941 ne948 q933 (Ins.of_exa c946 (hw _ tw312))) rfl (by rw [hml]; rfl) (lenOf pd24 rfl) rfl (Nat.le_of_eq rfl) (hb hby at_328) rfl (by decide)) ?_
    rintro T949 _ L949 X949 ⟨rfl, Nq949, Kq949, q950, q951, q952, q953, q954, q955⟩
    have N949 := Fr.app N929 Nq949
    have K956 := K942.trans Kq949 (allS (Or.inr sz718) (allS (Or.inr sz940) all0))
    have O957 := O943.keep Kq949 (allS g719 (allS g941 all0))
    refine GoW.st (t' := T949.setTop (mkF m 346 #[SI p0, SI p1, SI p2, SI p3, SI 2, SI ka, SI kb, SI kc, SR b10, SR b35, SR b46, SR b80, SR b125, SR b180, SR b196, SR b232, SR b277, SR b342, SR b417, SR b504, SR b564, SR b614, SR b665, SR b716, .unset, .unset] [])) (fun target kt => ?_) ?_
    · refine XS.pop X949.here hx rfl (hb hby at_331) rfl rfl ?_
      refine XS.iload X949.here hx rfl (hb hby at_332) rfl ?_
      refine XS.iconst X949.here hx rfl (hb hby at_334) ?_
      refine XS.icmpYes X949.here hx rfl (pc0 := 335) (pc' := 346) rfl (hb hby at_335) rfl (flt (by decide : ¬ ((2 : Int32) < (2 : Int32)))).2.2.2 (by decide) (by decide) ?_
      exact kt
    obtain ⟨T958, h958, X958, e958, E958, A958, D958, -, st958⟩ := newO X949 hx hZ hown (hw _ tw288) (hw _ tw289) (hw _ tw290) rfl (g := (mkF m 346 #[SI p0, SI p1, SI p2, SI p3, SI 2, SI ka, SI kb, SI kc, SR b10, SR b35, SR b46, SR b80, SR b125, SR b180, SR b196, SR b232, SR b277, SR b342, SR b417, SR b504, SR b564, SR b614, SR b665, SR b716, .unset, .unset] [])) rfl (hb hby at_346) (by decide) (by decide)
    obtain ⟨b958, g958⟩ : ∃ z, z = T949.heap.size := ⟨_, rfl⟩
    rw [← g958] at A958 D958 st958
    have lb959 : T949.heap.size ≤ b958 := Nat.le_of_eq g958.symm
    have sz960 : h0.size ≤ b958 := Nat.le_trans K956.1 lb959
    have g961 : n0 ≤ b958 := Nat.le_trans Z0 sz960
    have K962 := K956.ext E958
    have O963 := O957.ext E958
    have F964 : Fld Z h958 b958 sq5 "persons" sq11 .null := D958 (Or.inr (hw _ tw296)) (ty := (.object sq3)) (by decide)
    have F965 : Fld Z h958 b958 sq5 "departures" "[[I" .null := D958 (Or.inr (hw _ tw301)) (ty := (.array (.array .int))) (by decide)
    have F966 : Fld Z h958 b958 sq5 "arrivals" "[[I" .null := D958 (Or.inr (hw _ tw303)) (ty := (.array (.array .int))) (by decide)
    have F967 : Fld Z h958 b958 sq5 "departed" "[I" .null := D958 (Or.inr (hw _ tw306)) (ty := (.array .int)) (by decide)
    refine GoW.st st958 ?_
    refine GoW.st (t' := T958.setTop (mkF m 352 #[SI p0, SI p1, SI p2, SI p3, SI 2, SI ka, SI kb, SI kc, SR b10, SR b35, SR b46, SR b80, SR b125, SR b180, SR b196, SR b232, SR b277, SR b342, SR b417, SR b504, SR b564, SR b614, SR b665, SR b716, .unset, .unset] [(.ref b716), (.ref b958), (.ref b958)])) (fun target kt => ?_) ?_
    · refine XS.dup X958.here hx rfl (hb hby at_349) rfl rfl ?_
      refine XS.aload X958.here hx rfl (hb hby at_350) rfl rfl ?_
      exact kt
    have c968 := q950.ext E958
    have c969 := q951.ext E958
    have c970 := q952.ext E958
    have c971 := q954.ext E958
    have c972 := q955.ext E958
    have S_973 : Keep T725.heap h958 [b716] := ((((Keep.refl T725.heap [b716]).trans Kq929 (allS (Or.inl mI0) all0)).trans Kq949 (allS (Or.inl mI0) (allS (Or.inr q932) all0))).ext E958)
    have c974 := c928.keep S_973
    have S_975 : Keep T596.heap h958 [] := (S_927.trans S_973 (allS (Or.inr (Nat.le_trans (Nat.le_trans (Nat.le_trans (Nat.le_trans (Nat.le_trans (Nat.le_trans E614.1 E623.1) Kq647.1) E665.1) E674.1) Kq698.1) lb717)) all0))
    have c976 := q603.keep S_975 nin0
    have c977 := q604.keep S_975 nin0
    have c978 := q605.keep S_975
    have c979 := q606.keep S_975 nin0
    have c980 := q607.keep S_975 nin0
    have S_981 : Keep T929.heap h958 [b716, b930] := (((Keep.refl T929.heap [b716, b930]).trans Kq949 (allS (Or.inl mI0) (allS (Or.inl mI1) all0))).ext E958)
    have c982 := c946.keep S_981
    have S_983 := ((((Keep.refl T647.heap []).ext E665).ext E674).trans Kq698 (allS (Or.inr lb666) all0)).ext E716
    have S_984 := S_983.trans Kq725 (allS (Or.inr (Nat.le_trans (Nat.le_trans (Nat.le_trans E665.1 E674.1) Kq698.1) lb717)) all0)
    have S_985 : Keep T647.heap h958 [] := (S_984.trans S_973 (allS (Or.inr (Nat.le_trans (Nat.le_trans (Nat.le_trans E665.1 E674.1) Kq698.1) lb717)) all0))
    have c986 := q654.keep S_985 nin0
    have c987 := q655.keep S_985 nin0
    have c988 := q656.keep S_985
    have c989 := q657.keep S_985 nin0
    have c990 := q658.keep S_985 nin0
    have S_991 := (((Keep.refl h674 [b665]).trans Kq698 (allS (Or.inl mI0) all0)).ext E716).trans Kq725 (allS (Or.inr (Nat.le_trans Kq698.1 lb717)) all0)
    have S_992 : Keep h674 h958 [b665] := (S_991.trans S_973 (allS (Or.inr (Nat.le_trans Kq698.1 lb717)) all0))
    have c993 := c687.keep S_992
    have c994 := c688.keep S_992
    have c995 := c689.keep S_992
    have S_996 := ((((S_521.trans Kq523 (allS (Or.inr (Nat.le_trans (Nat.le_trans (Nat.le_trans (Nat.le_trans E342.1 Kq405.1) E417.1) Kq492.1) lb505)) all0)).trans Kq543 (allS (Or.inr (Nat.le_trans (Nat.le_trans (Nat.le_trans (Nat.le_trans E342.1 Kq405.1) E417.1) Kq492.1) lb505)) (allS (Or.inr (Nat.le_trans S_521.1 q526)) all0))).trans Kq555 (allS (Or.inr (Nat.le_trans (Nat.le_trans (Nat.le_trans (Nat.le_trans E342.1 Kq405.1) E417.1) Kq492.1) lb505)) (allS (Or.inr (Nat.le_trans S_521.1 q526)) all0))).ext E564).ext E573
    have S_997 : Keep T337.heap h958 [] := ((S_996.trans Kq596 (allS (Or.inr (Nat.le_trans (Nat.le_trans S_521.1 (Nat.le_trans (Nat.le_trans Kq523.1 Kq543.1) Kq555.1)) lb565)) all0)).trans S_975 all0)
    have c998 := q339.keep S_997 nin0
    have S_999 := (((S_539.trans Kq543 (allS (Or.inr (Nat.le_trans (Nat.le_trans E417.1 Kq492.1) lb505)) (allS (Or.inr (Nat.le_trans (Nat.le_trans (Nat.le_trans (Nat.le_trans E417.1 Kq492.1) E504.1) Kq513.1) q526)) all0))).trans Kq555 (allS (Or.inr (Nat.le_trans (Nat.le_trans E417.1 Kq492.1) lb505)) (allS (Or.inr (Nat.le_trans (Nat.le_trans (Nat.le_trans (Nat.le_trans E417.1 Kq492.1) E504.1) Kq513.1) q526)) all0))).ext E564).ext E573
    have S_1000 : Keep T405.heap h958 [] := ((S_999.trans Kq596 (allS (Or.inr (Nat.le_trans (Nat.le_trans S_539.1 (Nat.le_trans Kq543.1 Kq555.1)) lb565)) all0)).trans S_975 all0)
    have c1001 := q409.keep S_1000 nin0
    have S_1002 : Keep T492.heap h958 [] := (((((S_553.trans Kq555 (allS (Or.inr lb505) (allS (Or.inr (Nat.le_trans (Nat.le_trans E504.1 Kq513.1) q526)) all0))).ext E564).ext E573).trans Kq596 (allS (Or.inr (Nat.le_trans (Nat.le_trans S_553.1 Kq555.1) lb565)) all0)).trans S_975 all0)
    have c1003 := q496.keep S_1002 nin0
    have c1004 := q410.keep S_1000
    have c1005 := q497.keep S_1002
    have c1006 := q412.keep S_1000 nin0
    have c1007 := q499.keep S_1002 nin0
    have ne1008 : we ≠ b35 := Nat.ne_of_lt (Nat.lt_of_lt_of_le (Nat.lt_of_lt_of_eq E_we.lt O0.1) g38)
    have o1009 : b930 < b958 := Nat.lt_of_lt_of_le q938.lt (Nat.le_trans Kq949.1 lb959)
    have o1010 : b716 < b958 := Nat.lt_trans o947 o1009
    have ne1011 : b716 ≠ b958 := Nat.ne_of_lt o1010
    have ne1012 : b930 ≠ b958 := Nat.ne_of_lt o1009
    have o1013 : b277 < b406 := Nat.lt_trans o384 o469
    have o1014 : b277 < b417 := Nat.lt_trans o1013 o471
    have o1015 : b417 < b493 := Nat.lt_of_lt_of_le A417.lt q495
    have o1016 : b277 < b493 := Nat.lt_trans o1014 o1015
    have o1017 : b493 < b504 := Nat.lt_of_lt_of_le q497.lt lb505
    have o1018 : b277 < b504 := Nat.lt_trans o1016 o1017
    have o1019 : b277 < b524 := Nat.lt_trans o1018 o541
    have o1020 : b277 < b564 := Nat.lt_trans o1019 o592
    have o1021 : b277 < b598 := Nat.lt_trans o1020 o639
    have o1022 : b277 < b614 := Nat.lt_trans o1021 o641
    have o1023 : b277 < b649 := Nat.lt_trans o1022 o690
    have o1024 : b277 < b665 := Nat.lt_trans o1023 o692
    have o1025 : b665 < b700 := Nat.lt_of_lt_of_le A665.lt (Nat.le_trans E674.1 q703)
    have o1026 : b277 < b700 := Nat.lt_trans o1024 o1025
    have o1027 : b700 < b716 := Nat.lt_of_lt_of_le q709.lt lb717
    have o1028 : b277 < b716 := Nat.lt_trans o1026 o1027
    have o1029 : b277 < b930 := Nat.lt_trans o1028 o947
    have o1030 : b277 < b958 := Nat.lt_trans o1029 o1009
    have ne1031 : b277 ≠ b958 := Nat.ne_of_lt o1030
    have o1032 : b342 < b417 := Nat.lt_trans o469 o471
    have o1033 : b342 < b493 := Nat.lt_trans o1032 o1015
    have o1034 : b342 < b504 := Nat.lt_trans o1033 o1017
    have o1035 : b342 < b524 := Nat.lt_trans o1034 o541
    have o1036 : b342 < b564 := Nat.lt_trans o1035 o592
    have o1037 : b342 < b598 := Nat.lt_trans o1036 o639
    have o1038 : b342 < b614 := Nat.lt_trans o1037 o641
    have o1039 : b342 < b649 := Nat.lt_trans o1038 o690
    have o1040 : b342 < b665 := Nat.lt_trans o1039 o692
    have o1041 : b342 < b700 := Nat.lt_trans o1040 o1025
    have o1042 : b342 < b716 := Nat.lt_trans o1041 o1027
    have o1043 : b342 < b930 := Nat.lt_trans o1042 o947
    have o1044 : b342 < b958 := Nat.lt_trans o1043 o1009
    have ne1045 : b342 ≠ b958 := Nat.ne_of_lt o1044
    have o1046 : b417 < b504 := Nat.lt_trans o1015 o1017
    have o1047 : b417 < b524 := Nat.lt_trans o1046 o541
    have o1048 : b417 < b564 := Nat.lt_trans o1047 o592
    have o1049 : b417 < b598 := Nat.lt_trans o1048 o639
    have o1050 : b417 < b614 := Nat.lt_trans o1049 o641
    have o1051 : b417 < b649 := Nat.lt_trans o1050 o690
    have o1052 : b417 < b665 := Nat.lt_trans o1051 o692
    have o1053 : b417 < b700 := Nat.lt_trans o1052 o1025
    have o1054 : b417 < b716 := Nat.lt_trans o1053 o1027
    have o1055 : b417 < b930 := Nat.lt_trans o1054 o947
    have o1056 : b417 < b958 := Nat.lt_trans o1055 o1009
    have ne1057 : b417 ≠ b958 := Nat.ne_of_lt o1056
    have o1058 : b406 < b493 := Nat.lt_trans o471 o1015
    have o1059 : b406 < b504 := Nat.lt_trans o1058 o1017
    have o1060 : b406 < b524 := Nat.lt_trans o1059 o541
    have o1061 : b406 < b564 := Nat.lt_trans o1060 o592
    have o1062 : b406 < b598 := Nat.lt_trans o1061 o639
    have o1063 : b406 < b614 := Nat.lt_trans o1062 o641
    have o1064 : b406 < b649 := Nat.lt_trans o1063 o690
    have o1065 : b406 < b665 := Nat.lt_trans o1064 o692
    have o1066 : b406 < b700 := Nat.lt_trans o1065 o1025
    have o1067 : b406 < b716 := Nat.lt_trans o1066 o1027
    have o1068 : b406 < b930 := Nat.lt_trans o1067 o947
    have o1069 : b406 < b958 := Nat.lt_trans o1068 o1009
    have ne1070 : b406 ≠ b958 := Nat.ne_of_lt o1069
    have o1071 : b493 < b524 := Nat.lt_trans o1017 o541
    have o1072 : b493 < b564 := Nat.lt_trans o1071 o592
    have o1073 : b493 < b598 := Nat.lt_trans o1072 o639
    have o1074 : b493 < b614 := Nat.lt_trans o1073 o641
    have o1075 : b493 < b649 := Nat.lt_trans o1074 o690
    have o1076 : b493 < b665 := Nat.lt_trans o1075 o692
    have o1077 : b493 < b700 := Nat.lt_trans o1076 o1025
    have o1078 : b493 < b716 := Nat.lt_trans o1077 o1027
    have o1079 : b493 < b930 := Nat.lt_trans o1078 o947
    have o1080 : b493 < b958 := Nat.lt_trans o1079 o1009
    have ne1081 : b493 ≠ b958 := Nat.ne_of_lt o1080
    have o1082 : b564 < b614 := Nat.lt_trans o639 o641
    have o1083 : b564 < b649 := Nat.lt_trans o1082 o690
    have o1084 : b564 < b665 := Nat.lt_trans o1083 o692
    have o1085 : b564 < b700 := Nat.lt_trans o1084 o1025
    have o1086 : b564 < b716 := Nat.lt_trans o1085 o1027
    have o1087 : b564 < b930 := Nat.lt_trans o1086 o947
    have o1088 : b564 < b958 := Nat.lt_trans o1087 o1009
    have ne1089 : b564 ≠ b958 := Nat.ne_of_lt o1088
    have o1090 : b597 < b614 := Nat.lt_of_lt_of_le q605.lt lb615
    have o1091 : b597 < b649 := Nat.lt_trans o1090 o690
    have o1092 : b597 < b665 := Nat.lt_trans o1091 o692
    have o1093 : b597 < b700 := Nat.lt_trans o1092 o1025
    have o1094 : b597 < b716 := Nat.lt_trans o1093 o1027
    have o1095 : b597 < b930 := Nat.lt_trans o1094 o947
    have o1096 : b597 < b958 := Nat.lt_trans o1095 o1009
    have ne1097 : b597 ≠ b958 := Nat.ne_of_lt o1096
    have o1098 : b598 < b649 := Nat.lt_trans o641 o690
    have o1099 : b598 < b665 := Nat.lt_trans o1098 o692
    have o1100 : b598 < b700 := Nat.lt_trans o1099 o1025
    have o1101 : b598 < b716 := Nat.lt_trans o1100 o1027
    have o1102 : b598 < b930 := Nat.lt_trans o1101 o947
    have o1103 : b598 < b958 := Nat.lt_trans o1102 o1009
    have ne1104 : b598 ≠ b958 := Nat.ne_of_lt o1103
    have o1105 : b614 < b665 := Nat.lt_trans o690 o692
    have o1106 : b614 < b700 := Nat.lt_trans o1105 o1025
    have o1107 : b614 < b716 := Nat.lt_trans o1106 o1027
    have o1108 : b614 < b930 := Nat.lt_trans o1107 o947
    have o1109 : b614 < b958 := Nat.lt_trans o1108 o1009
    have ne1110 : b614 ≠ b958 := Nat.ne_of_lt o1109
    have o1111 : b648 < b665 := Nat.lt_of_lt_of_le q656.lt lb666
    have o1112 : b648 < b700 := Nat.lt_trans o1111 o1025
    have o1113 : b648 < b716 := Nat.lt_trans o1112 o1027
    have o1114 : b648 < b930 := Nat.lt_trans o1113 o947
    have o1115 : b648 < b958 := Nat.lt_trans o1114 o1009
    have ne1116 : b648 ≠ b958 := Nat.ne_of_lt o1115
    have o1117 : b649 < b700 := Nat.lt_trans o692 o1025
    have o1118 : b649 < b716 := Nat.lt_trans o1117 o1027
    have o1119 : b649 < b930 := Nat.lt_trans o1118 o947
    have o1120 : b649 < b958 := Nat.lt_trans o1119 o1009
    have ne1121 : b649 ≠ b958 := Nat.ne_of_lt o1120
    refine GoW.cps (own_ci (W := 1) (b := b958) (argsL := [(.ref b716)]) (rest := [(.ref b958)]) X958 hx hZ hown rfl (hw _ tw291) (hw _ tw292) (hw _ tw293) (hw _ tw290) (by decide) e958 (rm39_2 l Z a0 hw [] b958 b716 we wl wle kle b277 b342 b417 b406 b493 b35 b564 b597 b598 k599 ka b614 b648 b649 k650 kb b930 k931 h958 n0 O963 S_EM E_wl F_wl V_wle A958 g961 F964 F965 F966 F967 c968 c969 c970 c971 c972 c974 c976 c977 c978 c979 c980 hr0_ka hr2_ka c982 c986 c987 c988 c989 c990 hr0_kb hr2_kb c993 c994 c995 c998 c1001 c1003 c1004 c1005 c1006 c1007 (Ne.symm ne1008) ne1011 ne1012 ne1031 ne1045 ne1057 ne1070 ne1081 ne1089 ne1097 ne1104 ne1110 ne1116 ne1121) rfl (by rw [hml]; rfl) (lenOf pd27 rfl) rfl (Nat.le_of_eq rfl) (hb hby at_352) rfl (by decide)) ?_
    rintro T1122 _ L1122 X1122 ⟨b1123, k1124, b1125, b1126, v1127, v1128, rfl, Nq1122, Kq1122, q1129, q1130, q1131, q1132, q1133, q1134, q1135⟩
    have N1122 := Fr.app N949 Nq1122
    have K1136 := K962.trans Kq1122 (allS (Or.inr sz960) all0)
    have O1137 := O963.keep Kq1122 (allS g961 all0)
    refine GoW.st (t' := T1122.setTop (mkF m 360 #[SI p0, SI p1, SI p2, SI p3, SI 2, SI ka, SI kb, SI kc, SR b10, SR b35, SR b46, SR b80, SR b125, SR b180, SR b196, SR b232, SR b277, SR b342, SR b417, SR b504, SR b564, SR b614, SR b665, SR b716, SR b958, SI 0] [])) (fun target kt => ?_) ?_
    · refine XS.astore X1122.here hx rfl (hb hby at_355) rfl rfl (l' := #[SI p0, SI p1, SI p2, SI p3, SI 2, SI ka, SI kb, SI kc, SR b10, SR b35, SR b46, SR b80, SR b125, SR b180, SR b196, SR b232, SR b277, SR b342, SR b417, SR b504, SR b564, SR b614, SR b665, SR b716, SR b958, .unset]) rfl ?_
      refine XS.iconst X1122.here hx rfl (hb hby at_357) ?_
      refine XS.istore X1122.here hx rfl (hb hby at_358) rfl (l' := #[SI p0, SI p1, SI p2, SI p3, SI 2, SI ka, SI kb, SI kc, SR b10, SR b35, SR b46, SR b80, SR b125, SR b180, SR b196, SR b232, SR b277, SR b342, SR b417, SR b504, SR b564, SR b614, SR b665, SR b716, SR b958, SI 0]) rfl ?_
      exact kt
    have JT : ∀ z_ : Int32, (own_t2 ka kb) = z_ → GoW p e below s (Q0 Z p0 p1 p2 p3 wd kd wm we wl wle kle wo h0 n0) room_1.cells room_1.slots (T1122.setTop (mkF m 401 #[SI p0, SI p1, SI p2, SI p3, SI 2, SI ka, SI kb, SI kc, SR b10, SR b35, SR b46, SR b80, SR b125, SR b180, SR b196, SR b232, SR b277, SR b342, SR b417, SR b504, SR b564, SR b614, SR b665, SR b716, SR b958, SI z_] [])) := by
      intro z_ hz_
      refine GoW.st (t' := T1122.setTop (mkF m 403 #[SI p0, SI p1, SI p2, SI p3, SI 2, SI ka, SI kb, SI kc, SR b10, SR b35, SR b46, SR b80, SR b125, SR b180, SR b196, SR b232, SR b277, SR b342, SR b417, SR b504, SR b564, SR b614, SR b665, SR b716, SR b958, SI z_] [(.ref b958)])) (fun target kt => ?_) ?_
      · refine XS.aload X1122.here hx rfl (hb hby at_401) rfl rfl ?_
        exact kt
      refine GoW.cps (own_cw (W := 0) (b := b958) (argsL := []) (rest := []) X1122 hx hZ hown (hw _ tw307) (hw _ tw308) (hw _ tw310) (hw _ tw309) (hw _ tw311) (hw _ tw290) (by decide) rfl q1129 (rm40_2 l Z a0 hw [] b958 b1123 k1124 b1125 v1127 ka b1126 v1128 kb T1122.heap n0 O1137  q1130 q1131 q1132 q1133 hr0_ka q1134 q1135 hr0_kb) rfl (by rw [hml]; rfl) (lenOf pd18 rfl) rfl (Nat.le_of_eq rfl) (hb hby at_403) rfl (by decide)) ?_
      rintro T1138 _ L1138 X1138 ⟨rfl, Nq1138, eq1138⟩
      have N1138 := Fr.app N1122 Nq1138
      refine GoW.st (t' := T1138.setTop (mkF m 416 #[SI p0, SI p1, SI p2, SI p3, SI 2, SI ka, SI kb, SI kc, SR b10, SR b35, SR b46, SR b80, SR b125, SR b180, SR b196, SR b232, SR b277, SR b342, SR b417, SR b504, SR b564, SR b614, SR b665, SR b716, SR b958, SI z_] [(.int 1)])) (fun target kt => ?_) ?_
      · refine XS.iload X1138.here hx rfl (hb hby at_406) rfl ?_
        refine XS.icmpNo X1138.here hx rfl (hb hby at_408) rfl (teq hz_).2 ?_
        refine XS.iconst X1138.here hx rfl (hb hby at_411) ?_
        refine XS.goto X1138.here hx rfl (pc0 := 412) (pc' := 416) rfl (hb hby at_412) (by decide) (by decide) ?_
        exact kt
      refine GoW.ret X1138 hSi (by rw [eq1138]; exact (Nat.le_trans hk674 (Nat.le_trans (Nat.le_trans (Nat.le_trans (Nat.le_trans (Nat.le_trans (Nat.le_trans Kq698.1 E716.1) Kq725.1) Kq929.1) Kq949.1) E958.1) Kq1122.1))) (v := some (.int 1)) (fun h => by rw [hret] at h; cases h) hlk (fun fs hr => retN X1138 hx (t := .boolean) hret (by simp) (hb hby at_416) hr) ?_ (by decide) (by decide)
      show Q0 Z p0 p1 p2 p3 wd kd wm we wl wle kle wo h0 n0 _ T1138.heap _
      rw [eq1138]
      exact ⟨rfl, N1138, K1136⟩
    refine GoW.st (t' := T1122.setTop (mkF m 367 #[SI p0, SI p1, SI p2, SI p3, SI 2, SI ka, SI kb, SI kc, SR b10, SR b35, SR b46, SR b80, SR b125, SR b180, SR b196, SR b232, SR b277, SR b342, SR b417, SR b504, SR b564, SR b614, SR b665, SR b716, SR b958, SI 0] [(.int ka)])) (fun target kt => ?_) ?_
    · refine XS.iload X1122.here hx rfl (hb hby at_360) rfl ?_
      refine XS.ifNo X1122.here hx rfl (hb hby at_362) rfl ((if0 _ _).trans (tlt (by decide : (0 : Int32) < (2 : Int32))).2.2.2) ?_
      refine XS.iload X1122.here hx rfl (hb hby at_365) rfl ?_
      exact kt
    rcases Classical.em (ka = (0 : Int32)) with hc1139 | hc1139
    · refine GoW.st (t' := T1122.setTop (mkF m 381 #[SI p0, SI p1, SI p2, SI p3, SI 2, SI ka, SI kb, SI kc, SR b10, SR b35, SR b46, SR b80, SR b125, SR b180, SR b196, SR b232, SR b277, SR b342, SR b417, SR b504, SR b564, SR b614, SR b665, SR b716, SR b958, SI 0] [(.int kb)])) (fun target kt => ?_) ?_
      · refine XS.ifYes X1122.here hx rfl (pc0 := 367) (pc' := 373) rfl (hb hby at_367) rfl ((if0 _ _).trans (teq hc1139).1) (by decide) (by decide) ?_
        refine XS.iload X1122.here hx rfl (hb hby at_373) rfl ?_
        refine XS.iconst X1122.here hx rfl (hb hby at_375) ?_
        refine XS.icmpNo X1122.here hx rfl (hb hby at_376) rfl (tlt (by decide : (1 : Int32) < (2 : Int32))).2.2.2 ?_
        refine XS.iload X1122.here hx rfl (hb hby at_379) rfl ?_
        exact kt
      rcases Classical.em (kb = (0 : Int32)) with hc1140 | hc1140
      · refine GoW.st (t' := T1122.setTop (mkF m 401 #[SI p0, SI p1, SI p2, SI p3, SI 2, SI ka, SI kb, SI kc, SR b10, SR b35, SR b46, SR b80, SR b125, SR b180, SR b196, SR b232, SR b277, SR b342, SR b417, SR b504, SR b564, SR b614, SR b665, SR b716, SR b958, SI 0] [])) (fun target kt => ?_) ?_
        · refine XS.ifYes X1122.here hx rfl (pc0 := 381) (pc' := 387) rfl (hb hby at_381) rfl ((if0 _ _).trans (teq hc1140).1) (by decide) (by decide) ?_
          refine XS.iload X1122.here hx rfl (hb hby at_387) rfl ?_
          refine XS.iconst X1122.here hx rfl (hb hby at_389) ?_
          refine XS.icmpYes X1122.here hx rfl (pc0 := 390) (pc' := 401) rfl (hb hby at_390) rfl (flt (by decide : ¬ ((2 : Int32) < (2 : Int32)))).2.2.2 (by decide) (by decide) ?_
          exact kt
        exact JT _ (by simp [own_t2, hc1139, hc1140])
      · refine GoW.st (t' := T1122.setTop (mkF m 401 #[SI p0, SI p1, SI p2, SI p3, SI 2, SI ka, SI kb, SI kc, SR b10, SR b35, SR b46, SR b80, SR b125, SR b180, SR b196, SR b232, SR b277, SR b342, SR b417, SR b504, SR b564, SR b614, SR b665, SR b716, SR b958, SI 1] [])) (fun target kt => ?_) ?_
        · refine XS.ifNo X1122.here hx rfl (hb hby at_381) rfl ((if0 _ _).trans (feq hc1140).1) ?_
          refine XS.iinc X1122.here hx rfl (hb hby at_384) rfl (l' := #[SI p0, SI p1, SI p2, SI p3, SI 2, SI ka, SI kb, SI kc, SR b10, SR b35, SR b46, SR b80, SR b125, SR b180, SR b196, SR b232, SR b277, SR b342, SR b417, SR b504, SR b564, SR b614, SR b665, SR b716, SR b958, SI 1]) rfl ?_
          refine XS.iload X1122.here hx rfl (hb hby at_387) rfl ?_
          refine XS.iconst X1122.here hx rfl (hb hby at_389) ?_
          refine XS.icmpYes X1122.here hx rfl (pc0 := 390) (pc' := 401) rfl (hb hby at_390) rfl (flt (by decide : ¬ ((2 : Int32) < (2 : Int32)))).2.2.2 (by decide) (by decide) ?_
          exact kt
        exact JT _ (by simp [own_t2, hc1139, hc1140])
    · refine GoW.st (t' := T1122.setTop (mkF m 381 #[SI p0, SI p1, SI p2, SI p3, SI 2, SI ka, SI kb, SI kc, SR b10, SR b35, SR b46, SR b80, SR b125, SR b180, SR b196, SR b232, SR b277, SR b342, SR b417, SR b504, SR b564, SR b614, SR b665, SR b716, SR b958, SI 1] [(.int kb)])) (fun target kt => ?_) ?_
      · refine XS.ifNo X1122.here hx rfl (hb hby at_367) rfl ((if0 _ _).trans (feq hc1139).1) ?_
        refine XS.iinc X1122.here hx rfl (hb hby at_370) rfl (l' := #[SI p0, SI p1, SI p2, SI p3, SI 2, SI ka, SI kb, SI kc, SR b10, SR b35, SR b46, SR b80, SR b125, SR b180, SR b196, SR b232, SR b277, SR b342, SR b417, SR b504, SR b564, SR b614, SR b665, SR b716, SR b958, SI 1]) rfl ?_
        refine XS.iload X1122.here hx rfl (hb hby at_373) rfl ?_
        refine XS.iconst X1122.here hx rfl (hb hby at_375) ?_
        refine XS.icmpNo X1122.here hx rfl (hb hby at_376) rfl (tlt (by decide : (1 : Int32) < (2 : Int32))).2.2.2 ?_
        refine XS.iload X1122.here hx rfl (hb hby at_379) rfl ?_
        exact kt
      rcases Classical.em (kb = (0 : Int32)) with hc1141 | hc1141
      · refine GoW.st (t' := T1122.setTop (mkF m 401 #[SI p0, SI p1, SI p2, SI p3, SI 2, SI ka, SI kb, SI kc, SR b10, SR b35, SR b46, SR b80, SR b125, SR b180, SR b196, SR b232, SR b277, SR b342, SR b417, SR b504, SR b564, SR b614, SR b665, SR b716, SR b958, SI 1] [])) (fun target kt => ?_) ?_
        · refine XS.ifYes X1122.here hx rfl (pc0 := 381) (pc' := 387) rfl (hb hby at_381) rfl ((if0 _ _).trans (teq hc1141).1) (by decide) (by decide) ?_
          refine XS.iload X1122.here hx rfl (hb hby at_387) rfl ?_
          refine XS.iconst X1122.here hx rfl (hb hby at_389) ?_
          refine XS.icmpYes X1122.here hx rfl (pc0 := 390) (pc' := 401) rfl (hb hby at_390) rfl (flt (by decide : ¬ ((2 : Int32) < (2 : Int32)))).2.2.2 (by decide) (by decide) ?_
          exact kt
        exact JT _ (by simp [own_t2, hc1139, hc1141])
      · refine GoW.st (t' := T1122.setTop (mkF m 401 #[SI p0, SI p1, SI p2, SI p3, SI 2, SI ka, SI kb, SI kc, SR b10, SR b35, SR b46, SR b80, SR b125, SR b180, SR b196, SR b232, SR b277, SR b342, SR b417, SR b504, SR b564, SR b614, SR b665, SR b716, SR b958, SI 2] [])) (fun target kt => ?_) ?_
        · refine XS.ifNo X1122.here hx rfl (hb hby at_381) rfl ((if0 _ _).trans (feq hc1141).1) ?_
          refine XS.iinc X1122.here hx rfl (hb hby at_384) rfl (l' := #[SI p0, SI p1, SI p2, SI p3, SI 2, SI ka, SI kb, SI kc, SR b10, SR b35, SR b46, SR b80, SR b125, SR b180, SR b196, SR b232, SR b277, SR b342, SR b417, SR b504, SR b564, SR b614, SR b665, SR b716, SR b958, SI 2]) rfl ?_
          refine XS.iload X1122.here hx rfl (hb hby at_387) rfl ?_
          refine XS.iconst X1122.here hx rfl (hb hby at_389) ?_
          refine XS.icmpYes X1122.here hx rfl (pc0 := 390) (pc' := 401) rfl (hb hby at_390) rfl (flt (by decide : ¬ ((2 : Int32) < (2 : Int32)))).2.2.2 (by decide) (by decide) ?_
          exact kt
        exact JT _ (by simp [own_t2, hc1139, hc1141])
  · have hk_ := hk
    show GoW _ _ _ _ _ _ _ (T725.setTop (mkF m 305 #[SI p0, SI p1, SI p2, SI p3, SI (p0 &&& (3 : Int32)), SI ka, SI kb, SI kc, SR b10, SR b35, SR b46, SR b80, SR b125, SR b180, SR b196, SR b232, SR b277, SR b342, SR b417, SR b504, SR b564, SR b614, SR b665, SR b716, .unset, .unset] []))
    rw [hk]
    show GoW _ _ _ _ _ _ _ (T725.setTop (mkF m 305 _ []))
    refine GoW.st (t' := T725.setTop (mkF m 314 #[SI p0, SI p1, SI p2, SI p3, SI 3, SI ka, SI kb, SI kc, SR b10, SR b35, SR b46, SR b80, SR b125, SR b180, SR b196, SR b232, SR b277, SR b342, SR b417, SR b504, SR b564, SR b614, SR b665, SR b716, .unset, .unset] [(.ref b564), (.ref b716)])) (fun target kt => ?_) ?_
    · refine XS.iload X725.here hx rfl (hb hby at_305) rfl ?_
      refine XS.ifNo X725.here hx rfl (hb hby at_307) rfl ((if0 _ _).trans (tlt (by decide : (0 : Int32) < (3 : Int32))).2.2.2) ?_
      refine XS.aload X725.here hx rfl (hb hby at_310) rfl rfl ?_
      refine XS.aload X725.here hx rfl (hb hby at_312) rfl rfl ?_
      exact kt
    have S_1142 := (((((Keep.refl T596.heap []).ext E614).ext E623).trans Kq647 (allS (Or.inr lb615) all0)).ext E665).ext E674
    have S_1143 : Keep T596.heap T725.heap [] := (((S_1142.trans Kq698 (allS (Or.inr (Nat.le_trans (Nat.le_trans (Nat.le_trans E614.1 E623.1) Kq647.1) lb666)) all0)).ext E716).trans Kq725 (allS (Or.inr (Nat.le_trans (Nat.le_trans S_1142.1 Kq698.1) lb717)) all0))
    have c1144 := q602.keep S_1143
    refine GoW.cps (own_cw (W := 0) (b := b716) (argsL := [(.ref b564)]) (rest := []) X725 hx hZ hown (hw _ tw69) (hw _ tw70) (hw _ tw72) (hw _ tw71) (hw _ tw73) (hw _ tw47) (by decide) rfl q726 (rm9_0 l Z a0 hw [] b716 b564 wd kd (0 : Int32) T725.heap n0 O731 S_DE E_wd V_wd q726 q727 q728 q729 g719 (Ins.of_exa c1144 (hw _ tw312))) rfl (by rw [hml]; rfl) (lenOf pd24 rfl) rfl (Nat.le_of_eq rfl) (hb hby at_314) rfl (by decide)) ?_
    rintro T1145 _ L1145 X1145 ⟨b1146, k1147, rfl, Nq1145, Kq1145, q1148, q1149, q1150, q1151, q1152, q1153, q1154, q1155⟩
    have N1145 := Fr.app N725 Nq1145
    have sz1156 : h0.size ≤ b1146 := Nat.le_trans K730.1 q1148
    have g1157 : n0 ≤ b1146 := Nat.le_trans Z0 sz1156
    have K1158 := K730.trans Kq1145 (allS (Or.inr sz718) all0)
    have O1159 := O731.keep Kq1145 (allS g719 all0)
    refine GoW.st (t' := T1145.setTop (mkF m 328 #[SI p0, SI p1, SI p2, SI p3, SI 3, SI ka, SI kb, SI kc, SR b10, SR b35, SR b46, SR b80, SR b125, SR b180, SR b196, SR b232, SR b277, SR b342, SR b417, SR b504, SR b564, SR b614, SR b665, SR b716, .unset, .unset] [(.ref b614), (.ref b716)])) (fun target kt => ?_) ?_
    · refine XS.pop X1145.here hx rfl (hb hby at_317) rfl rfl ?_
      refine XS.iload X1145.here hx rfl (hb hby at_318) rfl ?_
      refine XS.iconst X1145.here hx rfl (hb hby at_320) ?_
      refine XS.icmpNo X1145.here hx rfl (hb hby at_321) rfl (tlt (by decide : (1 : Int32) < (3 : Int32))).2.2.2 ?_
      refine XS.aload X1145.here hx rfl (hb hby at_324) rfl rfl ?_
      refine XS.aload X1145.here hx rfl (hb hby at_326) rfl rfl ?_
      exact kt
    have S_1160 := ((((Keep.refl T647.heap []).ext E665).ext E674).trans Kq698 (allS (Or.inr lb666) all0)).ext E716
    have S_1161 : Keep T647.heap T1145.heap [] := ((S_1160.trans Kq725 (allS (Or.inr (Nat.le_trans (Nat.le_trans (Nat.le_trans E665.1 E674.1) Kq698.1) lb717)) all0)).trans Kq1145 (allS (Or.inr (Nat.le_trans (Nat.le_trans (Nat.le_trans E665.1 E674.1) Kq698.1) lb717)) all0))
    have c1162 := q653.keep S_1161
    have o1163 : b716 < b1146 := Nat.lt_of_lt_of_le A716.lt (Nat.le_trans Kq725.1 q1148)
    have ne1164 : b716 ≠ b1146 := Nat.ne_of_lt o1163
    refine GoW.cps (own_cw (W := 0) (b := b716) (argsL := [(.ref b614)]) (rest := []) X1145 hx hZ hown (hw _ tw69) (hw _ tw70) (hw _ tw72) (hw _ tw71) (hw _ tw73) (hw _ tw47) (by decide) rfl q1150 (rm9_1 l Z a0 hw [] b716 b614 b1146 k1147 b564 ((0 : Int32) + (1 : Int32)) T1145.heap n0 O1159  q1150 q1151 q1152 q1153 q1154 q1155 g719 g1157 ne1164 q1149 (Ins.of_exa c1162 (hw _ tw312))) rfl (by rw [hml]; rfl) (lenOf pd24 rfl) rfl (Nat.le_of_eq rfl) (hb hby at_328) rfl (by decide)) ?_
    rintro T1165 _ L1165 X1165 ⟨rfl, Nq1165, Kq1165, q1166, q1167, q1168, q1169, q1170, q1171⟩
    have N1165 := Fr.app N1145 Nq1165
    have K1172 := K1158.trans Kq1165 (allS (Or.inr sz718) (allS (Or.inr sz1156) all0))
    have O1173 := O1159.keep Kq1165 (allS g719 (allS g1157 all0))
    refine GoW.st (t' := T1165.setTop (mkF m 342 #[SI p0, SI p1, SI p2, SI p3, SI 3, SI ka, SI kb, SI kc, SR b10, SR b35, SR b46, SR b80, SR b125, SR b180, SR b196, SR b232, SR b277, SR b342, SR b417, SR b504, SR b564, SR b614, SR b665, SR b716, .unset, .unset] [(.ref b665), (.ref b716)])) (fun target kt => ?_) ?_
    · refine XS.pop X1165.here hx rfl (hb hby at_331) rfl rfl ?_
      refine XS.iload X1165.here hx rfl (hb hby at_332) rfl ?_
      refine XS.iconst X1165.here hx rfl (hb hby at_334) ?_
      refine XS.icmpNo X1165.here hx rfl (hb hby at_335) rfl (tlt (by decide : (2 : Int32) < (3 : Int32))).2.2.2 ?_
      refine XS.aload X1165.here hx rfl (hb hby at_338) rfl rfl ?_
      refine XS.aload X1165.here hx rfl (hb hby at_340) rfl rfl ?_
      exact kt
    have S_1174 := (((Keep.refl T698.heap []).ext E716).trans Kq725 (allS (Or.inr lb717) all0)).trans Kq1145 (allS (Or.inr lb717) all0)
    have S_1175 : Keep T698.heap T1165.heap [] := (S_1174.trans Kq1165 (allS (Or.inr lb717) (allS (Or.inr (Nat.le_trans (Nat.le_trans E716.1 Kq725.1) q1148)) all0)))
    have c1176 := q704.keep S_1175
    refine GoW.cps (own_cw (W := 0) (b := b716) (argsL := [(.ref b665)]) (rest := []) X1165 hx hZ hown (hw _ tw69) (hw _ tw70) (hw _ tw72) (hw _ tw71) (hw _ tw73) (hw _ tw47) (by decide) rfl q1166 (rm9_2 l Z a0 hw [] b716 b665 b1146 k1147 b564 b614 (((0 : Int32) + (1 : Int32)) + (1 : Int32)) T1165.heap n0 O1173  q1166 q1167 q1168 q1169 q1170 q1171 g719 g1157 ne1164 q1149 (Ins.of_exa c1176 (hw _ tw312))) rfl (by rw [hml]; rfl) (lenOf pd24 rfl) rfl (Nat.le_of_eq rfl) (hb hby at_342) rfl (by decide)) ?_
    rintro T1177 _ L1177 X1177 ⟨rfl, Nq1177, Kq1177, q1178, q1179, q1180, q1181, q1182, q1183⟩
    have N1177 := Fr.app N1165 Nq1177
    have K1184 := K1172.trans Kq1177 (allS (Or.inr sz718) (allS (Or.inr sz1156) all0))
    have O1185 := O1173.keep Kq1177 (allS g719 (allS g1157 all0))
    refine GoW.st (t' := T1177.setTop (mkF m 346 #[SI p0, SI p1, SI p2, SI p3, SI 3, SI ka, SI kb, SI kc, SR b10, SR b35, SR b46, SR b80, SR b125, SR b180, SR b196, SR b232, SR b277, SR b342, SR b417, SR b504, SR b564, SR b614, SR b665, SR b716, .unset, .unset] [])) (fun target kt => ?_) ?_
    · refine XS.pop X1177.here hx rfl (hb hby at_345) rfl rfl ?_
      exact kt
    obtain ⟨T1186, h1186, X1186, e1186, E1186, A1186, D1186, -, st1186⟩ := newO X1177 hx hZ hown (hw _ tw288) (hw _ tw289) (hw _ tw290) rfl (g := (mkF m 346 #[SI p0, SI p1, SI p2, SI p3, SI 3, SI ka, SI kb, SI kc, SR b10, SR b35, SR b46, SR b80, SR b125, SR b180, SR b196, SR b232, SR b277, SR b342, SR b417, SR b504, SR b564, SR b614, SR b665, SR b716, .unset, .unset] [])) rfl (hb hby at_346) (by decide) (by decide)
    obtain ⟨b1186, g1186⟩ : ∃ z, z = T1177.heap.size := ⟨_, rfl⟩
    rw [← g1186] at A1186 D1186 st1186
    have lb1187 : T1177.heap.size ≤ b1186 := Nat.le_of_eq g1186.symm
    have sz1188 : h0.size ≤ b1186 := Nat.le_trans K1184.1 lb1187
    have g1189 : n0 ≤ b1186 := Nat.le_trans Z0 sz1188
    have K1190 := K1184.ext E1186
    have O1191 := O1185.ext E1186
    have F1192 : Fld Z h1186 b1186 sq5 "persons" sq11 .null := D1186 (Or.inr (hw _ tw296)) (ty := (.object sq3)) (by decide)
    have F1193 : Fld Z h1186 b1186 sq5 "departures" "[[I" .null := D1186 (Or.inr (hw _ tw301)) (ty := (.array (.array .int))) (by decide)
    have F1194 : Fld Z h1186 b1186 sq5 "arrivals" "[[I" .null := D1186 (Or.inr (hw _ tw303)) (ty := (.array (.array .int))) (by decide)
    have F1195 : Fld Z h1186 b1186 sq5 "departed" "[I" .null := D1186 (Or.inr (hw _ tw306)) (ty := (.array .int)) (by decide)
    refine GoW.st st1186 ?_
    refine GoW.st (t' := T1186.setTop (mkF m 352 #[SI p0, SI p1, SI p2, SI p3, SI 3, SI ka, SI kb, SI kc, SR b10, SR b35, SR b46, SR b80, SR b125, SR b180, SR b196, SR b232, SR b277, SR b342, SR b417, SR b504, SR b564, SR b614, SR b665, SR b716, .unset, .unset] [(.ref b716), (.ref b1186), (.ref b1186)])) (fun target kt => ?_) ?_
    · refine XS.dup X1186.here hx rfl (hb hby at_349) rfl rfl ?_
      refine XS.aload X1186.here hx rfl (hb hby at_350) rfl rfl ?_
      exact kt
    have c1196 := q1178.ext E1186
    have c1197 := q1179.ext E1186
    have c1198 := q1180.ext E1186
    have c1199 := q1182.ext E1186
    have c1200 := q1183.ext E1186
    have S_1201 : Keep T725.heap h1186 [b716] := (((((Keep.refl T725.heap [b716]).trans Kq1145 (allS (Or.inl mI0) all0)).trans Kq1165 (allS (Or.inl mI0) (allS (Or.inr q1148) all0))).trans Kq1177 (allS (Or.inl mI0) (allS (Or.inr q1148) all0))).ext E1186)
    have c1202 := c1144.keep S_1201
    have S_1203 : Keep T596.heap h1186 [] := (S_1143.trans S_1201 (allS (Or.inr (Nat.le_trans (Nat.le_trans (Nat.le_trans (Nat.le_trans (Nat.le_trans (Nat.le_trans E614.1 E623.1) Kq647.1) E665.1) E674.1) Kq698.1) lb717)) all0))
    have c1204 := q603.keep S_1203 nin0
    have c1205 := q604.keep S_1203 nin0
    have c1206 := q605.keep S_1203
    have c1207 := q606.keep S_1203 nin0
    have c1208 := q607.keep S_1203 nin0
    have S_1209 : Keep T1145.heap h1186 [b716, b1146] := ((((Keep.refl T1145.heap [b716, b1146]).trans Kq1165 (allS (Or.inl mI0) (allS (Or.inl mI1) all0))).trans Kq1177 (allS (Or.inl mI0) (allS (Or.inl mI1) all0))).ext E1186)
    have c1210 := c1162.keep S_1209
    have S_1211 := ((((Keep.refl T647.heap []).ext E665).ext E674).trans Kq698 (allS (Or.inr lb666) all0)).ext E716
    have S_1212 := S_1211.trans Kq725 (allS (Or.inr (Nat.le_trans (Nat.le_trans (Nat.le_trans E665.1 E674.1) Kq698.1) lb717)) all0)
    have S_1213 : Keep T647.heap h1186 [] := (S_1212.trans S_1201 (allS (Or.inr (Nat.le_trans (Nat.le_trans (Nat.le_trans E665.1 E674.1) Kq698.1) lb717)) all0))
    have c1214 := q654.keep S_1213 nin0
    have c1215 := q655.keep S_1213 nin0
    have c1216 := q656.keep S_1213
    have c1217 := q657.keep S_1213 nin0
    have c1218 := q658.keep S_1213 nin0
    have S_1219 : Keep T1165.heap h1186 [b716, b1146] := (((Keep.refl T1165.heap [b716, b1146]).trans Kq1177 (allS (Or.inl mI0) (allS (Or.inl mI1) all0))).ext E1186)
    have c1220 := c1176.keep S_1219
    have S_1221 := ((Keep.refl T698.heap []).ext E716).trans Kq725 (allS (Or.inr lb717) all0)
    have S_1222 : Keep T698.heap h1186 [] := (S_1221.trans S_1201 (allS (Or.inr lb717) all0))
    have c1223 := q705.keep S_1222 nin0
    have c1224 := q706.keep S_1222 nin0
    have c1225 := q707.keep S_1222
    have c1226 := q708.keep S_1222 nin0
    have c1227 := q709.keep S_1222 nin0
    have S_1228 : Keep h674 h1186 [b665] := (((Keep.refl h674 [b665]).trans Kq698 (allS (Or.inl mI0) all0)).trans S_1222 all0)
    have c1229 := c687.keep S_1228
    have c1230 := c688.keep S_1228
    have c1231 := c689.keep S_1228
    have S_1232 := ((((S_521.trans Kq523 (allS (Or.inr (Nat.le_trans (Nat.le_trans (Nat.le_trans (Nat.le_trans E342.1 Kq405.1) E417.1) Kq492.1) lb505)) all0)).trans Kq543 (allS (Or.inr (Nat.le_trans (Nat.le_trans (Nat.le_trans (Nat.le_trans E342.1 Kq405.1) E417.1) Kq492.1) lb505)) (allS (Or.inr (Nat.le_trans S_521.1 q526)) all0))).trans Kq555 (allS (Or.inr (Nat.le_trans (Nat.le_trans (Nat.le_trans (Nat.le_trans E342.1 Kq405.1) E417.1) Kq492.1) lb505)) (allS (Or.inr (Nat.le_trans S_521.1 q526)) all0))).ext E564).ext E573
    have S_1233 : Keep T337.heap h1186 [] := ((S_1232.trans Kq596 (allS (Or.inr (Nat.le_trans (Nat.le_trans S_521.1 (Nat.le_trans (Nat.le_trans Kq523.1 Kq543.1) Kq555.1)) lb565)) all0)).trans S_1203 all0)
    have c1234 := q339.keep S_1233 nin0
    have S_1235 := (((S_539.trans Kq543 (allS (Or.inr (Nat.le_trans (Nat.le_trans E417.1 Kq492.1) lb505)) (allS (Or.inr (Nat.le_trans (Nat.le_trans (Nat.le_trans (Nat.le_trans E417.1 Kq492.1) E504.1) Kq513.1) q526)) all0))).trans Kq555 (allS (Or.inr (Nat.le_trans (Nat.le_trans E417.1 Kq492.1) lb505)) (allS (Or.inr (Nat.le_trans (Nat.le_trans (Nat.le_trans (Nat.le_trans E417.1 Kq492.1) E504.1) Kq513.1) q526)) all0))).ext E564).ext E573
    have S_1236 : Keep T405.heap h1186 [] := ((S_1235.trans Kq596 (allS (Or.inr (Nat.le_trans (Nat.le_trans S_539.1 (Nat.le_trans Kq543.1 Kq555.1)) lb565)) all0)).trans S_1203 all0)
    have c1237 := q409.keep S_1236 nin0
    have S_1238 : Keep T492.heap h1186 [] := (((((S_553.trans Kq555 (allS (Or.inr lb505) (allS (Or.inr (Nat.le_trans (Nat.le_trans E504.1 Kq513.1) q526)) all0))).ext E564).ext E573).trans Kq596 (allS (Or.inr (Nat.le_trans (Nat.le_trans S_553.1 Kq555.1) lb565)) all0)).trans S_1203 all0)
    have c1239 := q496.keep S_1238 nin0
    have c1240 := q410.keep S_1236
    have c1241 := q497.keep S_1238
    have c1242 := q412.keep S_1236 nin0
    have c1243 := q499.keep S_1238 nin0
    have ne1244 : we ≠ b35 := Nat.ne_of_lt (Nat.lt_of_lt_of_le (Nat.lt_of_lt_of_eq E_we.lt O0.1) g38)
    have o1245 : b1146 < b1186 := Nat.lt_of_lt_of_le q1154.lt (Nat.le_trans (Nat.le_trans Kq1165.1 Kq1177.1) lb1187)
    have o1246 : b716 < b1186 := Nat.lt_trans o1163 o1245
    have ne1247 : b716 ≠ b1186 := Nat.ne_of_lt o1246
    have ne1248 : b1146 ≠ b1186 := Nat.ne_of_lt o1245
    have o1249 : b277 < b406 := Nat.lt_trans o384 o469
    have o1250 : b277 < b417 := Nat.lt_trans o1249 o471
    have o1251 : b417 < b493 := Nat.lt_of_lt_of_le A417.lt q495
    have o1252 : b277 < b493 := Nat.lt_trans o1250 o1251
    have o1253 : b493 < b504 := Nat.lt_of_lt_of_le q497.lt lb505
    have o1254 : b277 < b504 := Nat.lt_trans o1252 o1253
    have o1255 : b277 < b524 := Nat.lt_trans o1254 o541
    have o1256 : b277 < b564 := Nat.lt_trans o1255 o592
    have o1257 : b277 < b598 := Nat.lt_trans o1256 o639
    have o1258 : b277 < b614 := Nat.lt_trans o1257 o641
    have o1259 : b277 < b649 := Nat.lt_trans o1258 o690
    have o1260 : b277 < b665 := Nat.lt_trans o1259 o692
    have o1261 : b665 < b700 := Nat.lt_of_lt_of_le A665.lt (Nat.le_trans E674.1 q703)
    have o1262 : b277 < b700 := Nat.lt_trans o1260 o1261
    have o1263 : b700 < b716 := Nat.lt_of_lt_of_le q709.lt lb717
    have o1264 : b277 < b716 := Nat.lt_trans o1262 o1263
    have o1265 : b277 < b1146 := Nat.lt_trans o1264 o1163
    have o1266 : b277 < b1186 := Nat.lt_trans o1265 o1245
    have ne1267 : b277 ≠ b1186 := Nat.ne_of_lt o1266
    have o1268 : b342 < b417 := Nat.lt_trans o469 o471
    have o1269 : b342 < b493 := Nat.lt_trans o1268 o1251
    have o1270 : b342 < b504 := Nat.lt_trans o1269 o1253
    have o1271 : b342 < b524 := Nat.lt_trans o1270 o541
    have o1272 : b342 < b564 := Nat.lt_trans o1271 o592
    have o1273 : b342 < b598 := Nat.lt_trans o1272 o639
    have o1274 : b342 < b614 := Nat.lt_trans o1273 o641
    have o1275 : b342 < b649 := Nat.lt_trans o1274 o690
    have o1276 : b342 < b665 := Nat.lt_trans o1275 o692
    have o1277 : b342 < b700 := Nat.lt_trans o1276 o1261
    have o1278 : b342 < b716 := Nat.lt_trans o1277 o1263
    have o1279 : b342 < b1146 := Nat.lt_trans o1278 o1163
    have o1280 : b342 < b1186 := Nat.lt_trans o1279 o1245
    have ne1281 : b342 ≠ b1186 := Nat.ne_of_lt o1280
    have o1282 : b417 < b504 := Nat.lt_trans o1251 o1253
    have o1283 : b417 < b524 := Nat.lt_trans o1282 o541
    have o1284 : b417 < b564 := Nat.lt_trans o1283 o592
    have o1285 : b417 < b598 := Nat.lt_trans o1284 o639
    have o1286 : b417 < b614 := Nat.lt_trans o1285 o641
    have o1287 : b417 < b649 := Nat.lt_trans o1286 o690
    have o1288 : b417 < b665 := Nat.lt_trans o1287 o692
    have o1289 : b417 < b700 := Nat.lt_trans o1288 o1261
    have o1290 : b417 < b716 := Nat.lt_trans o1289 o1263
    have o1291 : b417 < b1146 := Nat.lt_trans o1290 o1163
    have o1292 : b417 < b1186 := Nat.lt_trans o1291 o1245
    have ne1293 : b417 ≠ b1186 := Nat.ne_of_lt o1292
    have o1294 : b406 < b493 := Nat.lt_trans o471 o1251
    have o1295 : b406 < b504 := Nat.lt_trans o1294 o1253
    have o1296 : b406 < b524 := Nat.lt_trans o1295 o541
    have o1297 : b406 < b564 := Nat.lt_trans o1296 o592
    have o1298 : b406 < b598 := Nat.lt_trans o1297 o639
    have o1299 : b406 < b614 := Nat.lt_trans o1298 o641
    have o1300 : b406 < b649 := Nat.lt_trans o1299 o690
    have o1301 : b406 < b665 := Nat.lt_trans o1300 o692
    have o1302 : b406 < b700 := Nat.lt_trans o1301 o1261
    have o1303 : b406 < b716 := Nat.lt_trans o1302 o1263
    have o1304 : b406 < b1146 := Nat.lt_trans o1303 o1163
    have o1305 : b406 < b1186 := Nat.lt_trans o1304 o1245
    have ne1306 : b406 ≠ b1186 := Nat.ne_of_lt o1305
    have o1307 : b493 < b524 := Nat.lt_trans o1253 o541
    have o1308 : b493 < b564 := Nat.lt_trans o1307 o592
    have o1309 : b493 < b598 := Nat.lt_trans o1308 o639
    have o1310 : b493 < b614 := Nat.lt_trans o1309 o641
    have o1311 : b493 < b649 := Nat.lt_trans o1310 o690
    have o1312 : b493 < b665 := Nat.lt_trans o1311 o692
    have o1313 : b493 < b700 := Nat.lt_trans o1312 o1261
    have o1314 : b493 < b716 := Nat.lt_trans o1313 o1263
    have o1315 : b493 < b1146 := Nat.lt_trans o1314 o1163
    have o1316 : b493 < b1186 := Nat.lt_trans o1315 o1245
    have ne1317 : b493 ≠ b1186 := Nat.ne_of_lt o1316
    have o1318 : b564 < b614 := Nat.lt_trans o639 o641
    have o1319 : b564 < b649 := Nat.lt_trans o1318 o690
    have o1320 : b564 < b665 := Nat.lt_trans o1319 o692
    have o1321 : b564 < b700 := Nat.lt_trans o1320 o1261
    have o1322 : b564 < b716 := Nat.lt_trans o1321 o1263
    have o1323 : b564 < b1146 := Nat.lt_trans o1322 o1163
    have o1324 : b564 < b1186 := Nat.lt_trans o1323 o1245
    have ne1325 : b564 ≠ b1186 := Nat.ne_of_lt o1324
    have o1326 : b597 < b614 := Nat.lt_of_lt_of_le q605.lt lb615
    have o1327 : b597 < b649 := Nat.lt_trans o1326 o690
    have o1328 : b597 < b665 := Nat.lt_trans o1327 o692
    have o1329 : b597 < b700 := Nat.lt_trans o1328 o1261
    have o1330 : b597 < b716 := Nat.lt_trans o1329 o1263
    have o1331 : b597 < b1146 := Nat.lt_trans o1330 o1163
    have o1332 : b597 < b1186 := Nat.lt_trans o1331 o1245
    have ne1333 : b597 ≠ b1186 := Nat.ne_of_lt o1332
    have o1334 : b598 < b649 := Nat.lt_trans o641 o690
    have o1335 : b598 < b665 := Nat.lt_trans o1334 o692
    have o1336 : b598 < b700 := Nat.lt_trans o1335 o1261
    have o1337 : b598 < b716 := Nat.lt_trans o1336 o1263
    have o1338 : b598 < b1146 := Nat.lt_trans o1337 o1163
    have o1339 : b598 < b1186 := Nat.lt_trans o1338 o1245
    have ne1340 : b598 ≠ b1186 := Nat.ne_of_lt o1339
    have o1341 : b614 < b665 := Nat.lt_trans o690 o692
    have o1342 : b614 < b700 := Nat.lt_trans o1341 o1261
    have o1343 : b614 < b716 := Nat.lt_trans o1342 o1263
    have o1344 : b614 < b1146 := Nat.lt_trans o1343 o1163
    have o1345 : b614 < b1186 := Nat.lt_trans o1344 o1245
    have ne1346 : b614 ≠ b1186 := Nat.ne_of_lt o1345
    have o1347 : b648 < b665 := Nat.lt_of_lt_of_le q656.lt lb666
    have o1348 : b648 < b700 := Nat.lt_trans o1347 o1261
    have o1349 : b648 < b716 := Nat.lt_trans o1348 o1263
    have o1350 : b648 < b1146 := Nat.lt_trans o1349 o1163
    have o1351 : b648 < b1186 := Nat.lt_trans o1350 o1245
    have ne1352 : b648 ≠ b1186 := Nat.ne_of_lt o1351
    have o1353 : b649 < b700 := Nat.lt_trans o692 o1261
    have o1354 : b649 < b716 := Nat.lt_trans o1353 o1263
    have o1355 : b649 < b1146 := Nat.lt_trans o1354 o1163
    have o1356 : b649 < b1186 := Nat.lt_trans o1355 o1245
    have ne1357 : b649 ≠ b1186 := Nat.ne_of_lt o1356
    have o1358 : b665 < b716 := Nat.lt_trans o1261 o1263
    have o1359 : b665 < b1146 := Nat.lt_trans o1358 o1163
    have o1360 : b665 < b1186 := Nat.lt_trans o1359 o1245
    have ne1361 : b665 ≠ b1186 := Nat.ne_of_lt o1360
    have o1362 : b699 < b716 := Nat.lt_of_lt_of_le q707.lt lb717
    have o1363 : b699 < b1146 := Nat.lt_trans o1362 o1163
    have o1364 : b699 < b1186 := Nat.lt_trans o1363 o1245
    have ne1365 : b699 ≠ b1186 := Nat.ne_of_lt o1364
    have o1366 : b700 < b1146 := Nat.lt_trans o1263 o1163
    have o1367 : b700 < b1186 := Nat.lt_trans o1366 o1245
    have ne1368 : b700 ≠ b1186 := Nat.ne_of_lt o1367
    refine GoW.cps (own_ci (W := 1) (b := b1186) (argsL := [(.ref b716)]) (rest := [(.ref b1186)]) X1186 hx hZ hown rfl (hw _ tw291) (hw _ tw292) (hw _ tw293) (hw _ tw290) (by decide) e1186 (rm39_3 l Z a0 hw [] b1186 b716 we wl wle kle b277 b342 b417 b406 b493 b35 b564 b597 b598 k599 ka b614 b648 b649 k650 kb b665 b699 b700 k701 kc b1146 k1147 h1186 n0 O1191 S_EM E_wl F_wl V_wle A1186 g1189 F1192 F1193 F1194 F1195 c1196 c1197 c1198 c1199 c1200 c1202 c1204 c1205 c1206 c1207 c1208 hr0_ka hr2_ka c1210 c1214 c1215 c1216 c1217 c1218 hr0_kb hr2_kb c1220 c1223 c1224 c1225 c1226 c1227 hr0_kc hr2_kc c1229 c1230 c1231 c1234 c1237 c1239 c1240 c1241 c1242 c1243 (Ne.symm ne1244) ne1247 ne1248 ne1267 ne1281 ne1293 ne1306 ne1317 ne1325 ne1333 ne1340 ne1346 ne1352 ne1357 ne1361 ne1365 ne1368) rfl (by rw [hml]; rfl) (lenOf pd27 rfl) rfl (Nat.le_of_eq rfl) (hb hby at_352) rfl (by decide)) ?_
    rintro T1369 _ L1369 X1369 ⟨b1370, k1371, b1372, b1373, b1374, v1375, v1376, v1377, rfl, Nq1369, Kq1369, q1378, q1379, q1380, q1381, q1382, q1383, q1384, q1385, q1386⟩
    have N1369 := Fr.app N1177 Nq1369
    have K1387 := K1190.trans Kq1369 (allS (Or.inr sz1188) all0)
    have O1388 := O1191.keep Kq1369 (allS g1189 all0)
    refine GoW.st (t' := T1369.setTop (mkF m 360 #[SI p0, SI p1, SI p2, SI p3, SI 3, SI ka, SI kb, SI kc, SR b10, SR b35, SR b46, SR b80, SR b125, SR b180, SR b196, SR b232, SR b277, SR b342, SR b417, SR b504, SR b564, SR b614, SR b665, SR b716, SR b1186, SI 0] [])) (fun target kt => ?_) ?_
    · refine XS.astore X1369.here hx rfl (hb hby at_355) rfl rfl (l' := #[SI p0, SI p1, SI p2, SI p3, SI 3, SI ka, SI kb, SI kc, SR b10, SR b35, SR b46, SR b80, SR b125, SR b180, SR b196, SR b232, SR b277, SR b342, SR b417, SR b504, SR b564, SR b614, SR b665, SR b716, SR b1186, .unset]) rfl ?_
      refine XS.iconst X1369.here hx rfl (hb hby at_357) ?_
      refine XS.istore X1369.here hx rfl (hb hby at_358) rfl (l' := #[SI p0, SI p1, SI p2, SI p3, SI 3, SI ka, SI kb, SI kc, SR b10, SR b35, SR b46, SR b80, SR b125, SR b180, SR b196, SR b232, SR b277, SR b342, SR b417, SR b504, SR b564, SR b614, SR b665, SR b716, SR b1186, SI 0]) rfl ?_
      exact kt
    have JT : ∀ z_ : Int32, (own_t3 ka kb kc) = z_ → GoW p e below s (Q0 Z p0 p1 p2 p3 wd kd wm we wl wle kle wo h0 n0) room_1.cells room_1.slots (T1369.setTop (mkF m 401 #[SI p0, SI p1, SI p2, SI p3, SI 3, SI ka, SI kb, SI kc, SR b10, SR b35, SR b46, SR b80, SR b125, SR b180, SR b196, SR b232, SR b277, SR b342, SR b417, SR b504, SR b564, SR b614, SR b665, SR b716, SR b1186, SI z_] [])) := by
      intro z_ hz_
      refine GoW.st (t' := T1369.setTop (mkF m 403 #[SI p0, SI p1, SI p2, SI p3, SI 3, SI ka, SI kb, SI kc, SR b10, SR b35, SR b46, SR b80, SR b125, SR b180, SR b196, SR b232, SR b277, SR b342, SR b417, SR b504, SR b564, SR b614, SR b665, SR b716, SR b1186, SI z_] [(.ref b1186)])) (fun target kt => ?_) ?_
      · refine XS.aload X1369.here hx rfl (hb hby at_401) rfl rfl ?_
        exact kt
      refine GoW.cps (own_cw (W := 0) (b := b1186) (argsL := []) (rest := []) X1369 hx hZ hown (hw _ tw307) (hw _ tw308) (hw _ tw310) (hw _ tw309) (hw _ tw311) (hw _ tw290) (by decide) rfl q1378 (rm40_3 l Z a0 hw [] b1186 b1370 k1371 b1372 v1375 ka b1373 v1376 kb b1374 v1377 kc T1369.heap n0 O1388  q1379 q1380 q1381 q1382 hr0_ka q1383 q1384 hr0_kb q1385 q1386 hr0_kc) rfl (by rw [hml]; rfl) (lenOf pd18 rfl) rfl (Nat.le_of_eq rfl) (hb hby at_403) rfl (by decide)) ?_
      rintro T1389 _ L1389 X1389 ⟨rfl, Nq1389, eq1389⟩
      have N1389 := Fr.app N1369 Nq1389
      refine GoW.st (t' := T1389.setTop (mkF m 416 #[SI p0, SI p1, SI p2, SI p3, SI 3, SI ka, SI kb, SI kc, SR b10, SR b35, SR b46, SR b80, SR b125, SR b180, SR b196, SR b232, SR b277, SR b342, SR b417, SR b504, SR b564, SR b614, SR b665, SR b716, SR b1186, SI z_] [(.int 1)])) (fun target kt => ?_) ?_
      · refine XS.iload X1389.here hx rfl (hb hby at_406) rfl ?_
        refine XS.icmpNo X1389.here hx rfl (hb hby at_408) rfl (teq hz_).2 ?_
        refine XS.iconst X1389.here hx rfl (hb hby at_411) ?_
        refine XS.goto X1389.here hx rfl (pc0 := 412) (pc' := 416) rfl (hb hby at_412) (by decide) (by decide) ?_
        exact kt
      refine GoW.ret X1389 hSi (by rw [eq1389]; exact (Nat.le_trans hk674 (Nat.le_trans (Nat.le_trans (Nat.le_trans (Nat.le_trans (Nat.le_trans (Nat.le_trans (Nat.le_trans Kq698.1 E716.1) Kq725.1) Kq1145.1) Kq1165.1) Kq1177.1) E1186.1) Kq1369.1))) (v := some (.int 1)) (fun h => by rw [hret] at h; cases h) hlk (fun fs hr => retN X1389 hx (t := .boolean) hret (by simp) (hb hby at_416) hr) ?_ (by decide) (by decide)
      show Q0 Z p0 p1 p2 p3 wd kd wm we wl wle kle wo h0 n0 _ T1389.heap _
      rw [eq1389]
      exact ⟨rfl, N1389, K1387⟩
    refine GoW.st (t' := T1369.setTop (mkF m 367 #[SI p0, SI p1, SI p2, SI p3, SI 3, SI ka, SI kb, SI kc, SR b10, SR b35, SR b46, SR b80, SR b125, SR b180, SR b196, SR b232, SR b277, SR b342, SR b417, SR b504, SR b564, SR b614, SR b665, SR b716, SR b1186, SI 0] [(.int ka)])) (fun target kt => ?_) ?_
    · refine XS.iload X1369.here hx rfl (hb hby at_360) rfl ?_
      refine XS.ifNo X1369.here hx rfl (hb hby at_362) rfl ((if0 _ _).trans (tlt (by decide : (0 : Int32) < (3 : Int32))).2.2.2) ?_
      refine XS.iload X1369.here hx rfl (hb hby at_365) rfl ?_
      exact kt
    rcases Classical.em (ka = (0 : Int32)) with hc1390 | hc1390
    · refine GoW.st (t' := T1369.setTop (mkF m 381 #[SI p0, SI p1, SI p2, SI p3, SI 3, SI ka, SI kb, SI kc, SR b10, SR b35, SR b46, SR b80, SR b125, SR b180, SR b196, SR b232, SR b277, SR b342, SR b417, SR b504, SR b564, SR b614, SR b665, SR b716, SR b1186, SI 0] [(.int kb)])) (fun target kt => ?_) ?_
      · refine XS.ifYes X1369.here hx rfl (pc0 := 367) (pc' := 373) rfl (hb hby at_367) rfl ((if0 _ _).trans (teq hc1390).1) (by decide) (by decide) ?_
        refine XS.iload X1369.here hx rfl (hb hby at_373) rfl ?_
        refine XS.iconst X1369.here hx rfl (hb hby at_375) ?_
        refine XS.icmpNo X1369.here hx rfl (hb hby at_376) rfl (tlt (by decide : (1 : Int32) < (3 : Int32))).2.2.2 ?_
        refine XS.iload X1369.here hx rfl (hb hby at_379) rfl ?_
        exact kt
      rcases Classical.em (kb = (0 : Int32)) with hc1391 | hc1391
      · refine GoW.st (t' := T1369.setTop (mkF m 395 #[SI p0, SI p1, SI p2, SI p3, SI 3, SI ka, SI kb, SI kc, SR b10, SR b35, SR b46, SR b80, SR b125, SR b180, SR b196, SR b232, SR b277, SR b342, SR b417, SR b504, SR b564, SR b614, SR b665, SR b716, SR b1186, SI 0] [(.int kc)])) (fun target kt => ?_) ?_
        · refine XS.ifYes X1369.here hx rfl (pc0 := 381) (pc' := 387) rfl (hb hby at_381) rfl ((if0 _ _).trans (teq hc1391).1) (by decide) (by decide) ?_
          refine XS.iload X1369.here hx rfl (hb hby at_387) rfl ?_
          refine XS.iconst X1369.here hx rfl (hb hby at_389) ?_
          refine XS.icmpNo X1369.here hx rfl (hb hby at_390) rfl (tlt (by decide : (2 : Int32) < (3 : Int32))).2.2.2 ?_
          refine XS.iload X1369.here hx rfl (hb hby at_393) rfl ?_
          exact kt
        rcases Classical.em (kc = (0 : Int32)) with hc1392 | hc1392
        · refine GoW.st (t' := T1369.setTop (mkF m 401 #[SI p0, SI p1, SI p2, SI p3, SI 3, SI ka, SI kb, SI kc, SR b10, SR b35, SR b46, SR b80, SR b125, SR b180, SR b196, SR b232, SR b277, SR b342, SR b417, SR b504, SR b564, SR b614, SR b665, SR b716, SR b1186, SI 0] [])) (fun target kt => ?_) ?_
          · refine XS.ifYes X1369.here hx rfl (pc0 := 395) (pc' := 401) rfl (hb hby at_395) rfl ((if0 _ _).trans (teq hc1392).1) (by decide) (by decide) ?_
            exact kt
          exact JT _ (by simp [own_t3, hc1390, hc1391, hc1392])
        · refine GoW.st (t' := T1369.setTop (mkF m 401 #[SI p0, SI p1, SI p2, SI p3, SI 3, SI ka, SI kb, SI kc, SR b10, SR b35, SR b46, SR b80, SR b125, SR b180, SR b196, SR b232, SR b277, SR b342, SR b417, SR b504, SR b564, SR b614, SR b665, SR b716, SR b1186, SI 1] [])) (fun target kt => ?_) ?_
          · refine XS.ifNo X1369.here hx rfl (hb hby at_395) rfl ((if0 _ _).trans (feq hc1392).1) ?_
            refine XS.iinc X1369.here hx rfl (hb hby at_398) rfl (l' := #[SI p0, SI p1, SI p2, SI p3, SI 3, SI ka, SI kb, SI kc, SR b10, SR b35, SR b46, SR b80, SR b125, SR b180, SR b196, SR b232, SR b277, SR b342, SR b417, SR b504, SR b564, SR b614, SR b665, SR b716, SR b1186, SI 1]) rfl ?_
            exact kt
          exact JT _ (by simp [own_t3, hc1390, hc1391, hc1392])
      · refine GoW.st (t' := T1369.setTop (mkF m 395 #[SI p0, SI p1, SI p2, SI p3, SI 3, SI ka, SI kb, SI kc, SR b10, SR b35, SR b46, SR b80, SR b125, SR b180, SR b196, SR b232, SR b277, SR b342, SR b417, SR b504, SR b564, SR b614, SR b665, SR b716, SR b1186, SI 1] [(.int kc)])) (fun target kt => ?_) ?_
        · refine XS.ifNo X1369.here hx rfl (hb hby at_381) rfl ((if0 _ _).trans (feq hc1391).1) ?_
          refine XS.iinc X1369.here hx rfl (hb hby at_384) rfl (l' := #[SI p0, SI p1, SI p2, SI p3, SI 3, SI ka, SI kb, SI kc, SR b10, SR b35, SR b46, SR b80, SR b125, SR b180, SR b196, SR b232, SR b277, SR b342, SR b417, SR b504, SR b564, SR b614, SR b665, SR b716, SR b1186, SI 1]) rfl ?_
          refine XS.iload X1369.here hx rfl (hb hby at_387) rfl ?_
          refine XS.iconst X1369.here hx rfl (hb hby at_389) ?_
          refine XS.icmpNo X1369.here hx rfl (hb hby at_390) rfl (tlt (by decide : (2 : Int32) < (3 : Int32))).2.2.2 ?_
          refine XS.iload X1369.here hx rfl (hb hby at_393) rfl ?_
          exact kt
        rcases Classical.em (kc = (0 : Int32)) with hc1393 | hc1393
        · refine GoW.st (t' := T1369.setTop (mkF m 401 #[SI p0, SI p1, SI p2, SI p3, SI 3, SI ka, SI kb, SI kc, SR b10, SR b35, SR b46, SR b80, SR b125, SR b180, SR b196, SR b232, SR b277, SR b342, SR b417, SR b504, SR b564, SR b614, SR b665, SR b716, SR b1186, SI 1] [])) (fun target kt => ?_) ?_
          · refine XS.ifYes X1369.here hx rfl (pc0 := 395) (pc' := 401) rfl (hb hby at_395) rfl ((if0 _ _).trans (teq hc1393).1) (by decide) (by decide) ?_
            exact kt
          exact JT _ (by simp [own_t3, hc1390, hc1391, hc1393])
        · refine GoW.st (t' := T1369.setTop (mkF m 401 #[SI p0, SI p1, SI p2, SI p3, SI 3, SI ka, SI kb, SI kc, SR b10, SR b35, SR b46, SR b80, SR b125, SR b180, SR b196, SR b232, SR b277, SR b342, SR b417, SR b504, SR b564, SR b614, SR b665, SR b716, SR b1186, SI 2] [])) (fun target kt => ?_) ?_
          · refine XS.ifNo X1369.here hx rfl (hb hby at_395) rfl ((if0 _ _).trans (feq hc1393).1) ?_
            refine XS.iinc X1369.here hx rfl (hb hby at_398) rfl (l' := #[SI p0, SI p1, SI p2, SI p3, SI 3, SI ka, SI kb, SI kc, SR b10, SR b35, SR b46, SR b80, SR b125, SR b180, SR b196, SR b232, SR b277, SR b342, SR b417, SR b504, SR b564, SR b614, SR b665, SR b716, SR b1186, SI 2]) rfl ?_
            exact kt
          exact JT _ (by simp [own_t3, hc1390, hc1391, hc1393])
    · refine GoW.st (t' := T1369.setTop (mkF m 381 #[SI p0, SI p1, SI p2, SI p3, SI 3, SI ka, SI kb, SI kc, SR b10, SR b35, SR b46, SR b80, SR b125, SR b180, SR b196, SR b232, SR b277, SR b342, SR b417, SR b504, SR b564, SR b614, SR b665, SR b716, SR b1186, SI 1] [(.int kb)])) (fun target kt => ?_) ?_
      · refine XS.ifNo X1369.here hx rfl (hb hby at_367) rfl ((if0 _ _).trans (feq hc1390).1) ?_
        refine XS.iinc X1369.here hx rfl (hb hby at_370) rfl (l' := #[SI p0, SI p1, SI p2, SI p3, SI 3, SI ka, SI kb, SI kc, SR b10, SR b35, SR b46, SR b80, SR b125, SR b180, SR b196, SR b232, SR b277, SR b342, SR b417, SR b504, SR b564, SR b614, SR b665, SR b716, SR b1186, SI 1]) rfl ?_
        refine XS.iload X1369.here hx rfl (hb hby at_373) rfl ?_
        refine XS.iconst X1369.here hx rfl (hb hby at_375) ?_
        refine XS.icmpNo X1369.here hx rfl (hb hby at_376) rfl (tlt (by decide : (1 : Int32) < (3 : Int32))).2.2.2 ?_
        refine XS.iload X1369.here hx rfl (hb hby at_379) rfl ?_
        exact kt
      rcases Classical.em (kb = (0 : Int32)) with hc1394 | hc1394
      · refine GoW.st (t' := T1369.setTop (mkF m 395 #[SI p0, SI p1, SI p2, SI p3, SI 3, SI ka, SI kb, SI kc, SR b10, SR b35, SR b46, SR b80, SR b125, SR b180, SR b196, SR b232, SR b277, SR b342, SR b417, SR b504, SR b564, SR b614, SR b665, SR b716, SR b1186, SI 1] [(.int kc)])) (fun target kt => ?_) ?_
        · refine XS.ifYes X1369.here hx rfl (pc0 := 381) (pc' := 387) rfl (hb hby at_381) rfl ((if0 _ _).trans (teq hc1394).1) (by decide) (by decide) ?_
          refine XS.iload X1369.here hx rfl (hb hby at_387) rfl ?_
          refine XS.iconst X1369.here hx rfl (hb hby at_389) ?_
          refine XS.icmpNo X1369.here hx rfl (hb hby at_390) rfl (tlt (by decide : (2 : Int32) < (3 : Int32))).2.2.2 ?_
          refine XS.iload X1369.here hx rfl (hb hby at_393) rfl ?_
          exact kt
        rcases Classical.em (kc = (0 : Int32)) with hc1395 | hc1395
        · refine GoW.st (t' := T1369.setTop (mkF m 401 #[SI p0, SI p1, SI p2, SI p3, SI 3, SI ka, SI kb, SI kc, SR b10, SR b35, SR b46, SR b80, SR b125, SR b180, SR b196, SR b232, SR b277, SR b342, SR b417, SR b504, SR b564, SR b614, SR b665, SR b716, SR b1186, SI 1] [])) (fun target kt => ?_) ?_
          · refine XS.ifYes X1369.here hx rfl (pc0 := 395) (pc' := 401) rfl (hb hby at_395) rfl ((if0 _ _).trans (teq hc1395).1) (by decide) (by decide) ?_
            exact kt
          exact JT _ (by simp [own_t3, hc1390, hc1394, hc1395])
        · refine GoW.st (t' := T1369.setTop (mkF m 401 #[SI p0, SI p1, SI p2, SI p3, SI 3, SI ka, SI kb, SI kc, SR b10, SR b35, SR b46, SR b80, SR b125, SR b180, SR b196, SR b232, SR b277, SR b342, SR b417, SR b504, SR b564, SR b614, SR b665, SR b716, SR b1186, SI 2] [])) (fun target kt => ?_) ?_
          · refine XS.ifNo X1369.here hx rfl (hb hby at_395) rfl ((if0 _ _).trans (feq hc1395).1) ?_
            refine XS.iinc X1369.here hx rfl (hb hby at_398) rfl (l' := #[SI p0, SI p1, SI p2, SI p3, SI 3, SI ka, SI kb, SI kc, SR b10, SR b35, SR b46, SR b80, SR b125, SR b180, SR b196, SR b232, SR b277, SR b342, SR b417, SR b504, SR b564, SR b614, SR b665, SR b716, SR b1186, SI 2]) rfl ?_
            exact kt
          exact JT _ (by simp [own_t3, hc1390, hc1394, hc1395])
      · refine GoW.st (t' := T1369.setTop (mkF m 395 #[SI p0, SI p1, SI p2, SI p3, SI 3, SI ka, SI kb, SI kc, SR b10, SR b35, SR b46, SR b80, SR b125, SR b180, SR b196, SR b232, SR b277, SR b342, SR b417, SR b504, SR b564, SR b614, SR b665, SR b716, SR b1186, SI 2] [(.int kc)])) (fun target kt => ?_) ?_
        · refine XS.ifNo X1369.here hx rfl (hb hby at_381) rfl ((if0 _ _).trans (feq hc1394).1) ?_
          refine XS.iinc X1369.here hx rfl (hb hby at_384) rfl (l' := #[SI p0, SI p1, SI p2, SI p3, SI 3, SI ka, SI kb, SI kc, SR b10, SR b35, SR b46, SR b80, SR b125, SR b180, SR b196, SR b232, SR b277, SR b342, SR b417, SR b504, SR b564, SR b614, SR b665, SR b716, SR b1186, SI 2]) rfl ?_
          refine XS.iload X1369.here hx rfl (hb hby at_387) rfl ?_
          refine XS.iconst X1369.here hx rfl (hb hby at_389) ?_
          refine XS.icmpNo X1369.here hx rfl (hb hby at_390) rfl (tlt (by decide : (2 : Int32) < (3 : Int32))).2.2.2 ?_
          refine XS.iload X1369.here hx rfl (hb hby at_393) rfl ?_
          exact kt
        rcases Classical.em (kc = (0 : Int32)) with hc1396 | hc1396
        · refine GoW.st (t' := T1369.setTop (mkF m 401 #[SI p0, SI p1, SI p2, SI p3, SI 3, SI ka, SI kb, SI kc, SR b10, SR b35, SR b46, SR b80, SR b125, SR b180, SR b196, SR b232, SR b277, SR b342, SR b417, SR b504, SR b564, SR b614, SR b665, SR b716, SR b1186, SI 2] [])) (fun target kt => ?_) ?_
          · refine XS.ifYes X1369.here hx rfl (pc0 := 395) (pc' := 401) rfl (hb hby at_395) rfl ((if0 _ _).trans (teq hc1396).1) (by decide) (by decide) ?_
            exact kt
          exact JT _ (by simp [own_t3, hc1390, hc1394, hc1396])
        · refine GoW.st (t' := T1369.setTop (mkF m 401 #[SI p0, SI p1, SI p2, SI p3, SI 3, SI ka, SI kb, SI kc, SR b10, SR b35, SR b46, SR b80, SR b125, SR b180, SR b196, SR b232, SR b277, SR b342, SR b417, SR b504, SR b564, SR b614, SR b665, SR b716, SR b1186, SI 3] [])) (fun target kt => ?_) ?_
          · refine XS.ifNo X1369.here hx rfl (hb hby at_395) rfl ((if0 _ _).trans (feq hc1396).1) ?_
            refine XS.iinc X1369.here hx rfl (hb hby at_398) rfl (l' := #[SI p0, SI p1, SI p2, SI p3, SI 3, SI ka, SI kb, SI kc, SR b10, SR b35, SR b46, SR b80, SR b125, SR b180, SR b196, SR b232, SR b277, SR b342, SR b417, SR b504, SR b564, SR b614, SR b665, SR b716, SR b1186, SI 3]) rfl ?_
            exact kt
          exact JT _ (by simp [own_t3, hc1390, hc1394, hc1396])
theorem comes_1 {Post : Tables → Env → Array Value → State → Outcome → State → Prop} (hpost : ∀ tb e args s v u, (limb_1_1.after args s (.returned v) u = true ∧ limb_1_2.after args s (.returned v) u = true ∧ True) → ReturnedEndW s (.returned v) u (Jvm.fieldLocs frame_1_writes args s ++ Jvm.arrayLocs frame_1_arrays args s ++ Jvm.staticLocs frame_1_statics s) 120 2560 → Post tb e args s (.returned v) u) :
    ArmFor flags0 classFile x code maxLocals ret World_1 tables_1 room_1 Calls_1 rest_1 Pre_1 Post := by
  intro l hfl _ _ p e ha hc hk s m args below hf hA hF happ hP
  obtain ⟨hcalls, hrest, hpre⟩ := hP
  obtain ⟨-, -, -, hnamed, -, -, -, hat⟩ := (Spec.applies_iff hf).mp happ
  obtain ⟨hg, hn⟩ := and_e (Cond.before_iff.mp (show (Jvm.Cond.and given_1 narrow_1).before args s = true from hpre))
  obtain ⟨g1, g2⟩ := and_e hg
  obtain ⟨g3, g4⟩ := and_e g2
  obtain ⟨g5, g6⟩ := and_e g4
  obtain ⟨g7, g8⟩ := and_e g6
  obtain ⟨w0_, w1_, w2_, w3_, rfl⟩ : ∃ w0_ w1_ w2_ w3_ : Value, args = #[w0_, w1_, w2_, w3_] := by
    have hs : args.size = 4 := by simpa [Cond.value, given_1] using g1
    obtain ⟨L⟩ := args
    match L, hs with
    | [w0_, w1_, w2_, w3_], _ => exact ⟨w0_, w1_, w2_, w3_, rfl⟩
  have hw := fun d (hd : d ∈ tables_1) => atoms_spec (ws := Jvm.Cond.code x code maxLocals ret :: tables_1) hat d (List.mem_cons_of_mem _ hd)
  have hfit : Fit s := fun {y c} hc i hi => by
    obtain ⟨ha, rfl⟩ := Array.getElem?_eq_some_iff.mp hc
    have q := List.all_eq_true.mp ((Array.all_eq_true_iff_forall_mem.mp hF) _ (Array.getElem_mem ha)) i (List.mem_range.mpr hi)
    simpa [Array.getElem?_eq_getElem hi] using q
  obtain ⟨hsets, hown0⟩ := atoms_of _ (rest_1_c_eq ▸ (show rest_1_c.before _ s = true from hrest))
  have hr0 := Cond.before_iff.mp hown0
  obtain ⟨i0, ei0⟩ := is_v g3
  obtain rfl : w0_ = (.int i0) := Option.some.inj ei0
  obtain ⟨i1, ei1⟩ := is_v g5
  obtain rfl : w1_ = (.int i1) := Option.some.inj ei1
  obtain ⟨i2, ei2⟩ := is_v g7
  obtain rfl : w2_ = (.int i2) := Option.some.inj ei2
  obtain ⟨i3, ei3⟩ := is_v g8
  obtain rfl : w3_ = (.int i3) := Option.some.inj ei3
  obtain ⟨wd, ewd⟩ := arr_v (Cond.before_iff.mp (hsets _ (List.mem_of_getElem? (i := 6) rfl)))
  have S_DE := Sta.start ewd (Or.inr ⟨(hw _ tw47), (hsets _ (List.mem_of_getElem? (i := 2) rfl))⟩)
  obtain ⟨cld, A_wd⟩ := Arr.start ewd (Cond.before_iff.mp (hsets _ (List.mem_of_getElem? (i := 6) rfl)))
  have E_wd := Exa.start ewd (Cond.before_iff.mp (hsets _ (List.mem_of_getElem? (i := 7) rfl)))
  have V_wd := own_arv0 A_wd (own_len (own_eqi (Cond.before_iff.mp (hsets _ (List.mem_of_getElem? (i := 8) rfl)))) ewd A_wd.1)
  obtain ⟨kd, hkd⟩ : ∃ k, k = cld.cls := ⟨_, rfl⟩
  rw [← hkd] at V_wd
  obtain ⟨⟨cM, kM, wm, m1, m2, m3⟩, -⟩ := hcalls
  have M_AO : MirM s sq2 wm := ⟨cM, kM, m1, m2, m3.1⟩
  obtain ⟨we, ewe⟩ := exa_v (Cond.before_iff.mp (hsets _ (List.mem_of_getElem? (i := 11) rfl)))
  have S_EM := Sta.start ewe (Or.inl (hsets _ (List.mem_of_getElem? (i := 10) rfl)))
  have E_we := Exa.start ewe (Cond.before_iff.mp (hsets _ (List.mem_of_getElem? (i := 11) rfl)))
  obtain ⟨wl, ewl⟩ := exa_v (Cond.before_iff.mp (hsets _ (List.mem_of_getElem? (i := 20) rfl)))
  have S_EL := Sta.start ewl (Or.inl (hsets _ (List.mem_of_getElem? (i := 19) rfl)))
  have E_wl := Exa.start ewl (Cond.before_iff.mp (hsets _ (List.mem_of_getElem? (i := 20) rfl)))
  obtain ⟨wle, ewle⟩ := arr_v (Cond.before_iff.mp (hsets _ (List.mem_of_getElem? (i := 21) rfl)))
  have F_wl := Fld.start ((fld_at ewl).symm.trans ewle)
  obtain ⟨clle, A_wle⟩ := Arr.start ewle (Cond.before_iff.mp (hsets _ (List.mem_of_getElem? (i := 21) rfl)))
  have V_wle := own_arv0 A_wle (own_len (own_eqi (Cond.before_iff.mp (hsets _ (List.mem_of_getElem? (i := 23) rfl)))) ewle A_wle.1)
  obtain ⟨kle, hkle⟩ : ∃ k, k = clle.cls := ⟨_, rfl⟩
  rw [← hkle] at V_wle
  obtain ⟨wo, ewo⟩ := exa_v (Cond.before_iff.mp (hsets _ (List.mem_of_getElem? (i := 27) rfl)))
  have S_OD := Sta.start ewo (Or.inl (hsets _ (List.mem_of_getElem? (i := 26) rfl)))
  obtain ⟨n, o, h1, h2, h3, _, L, rfl, ⟨rfl, N, -⟩, hq⟩ := rm0 l s _ hw tables_1 i0 i1 i2 i3 wd kd wm we wl wle kle wo s.heap s.heap.size (Old.start s) S_DE E_wd V_wd M_AO S_EM E_we S_EL E_wl F_wl V_wle S_OD p e ha hc hk s m _ below hf ((Spec.applies_iff_loose hf).mp happ).1 ⟨rfl, State.Warmed39.refl s, rfl⟩ trivial
  refine ⟨n, _, h1, h2, h3, hpost _ _ _ _ _ _ ⟨Cond.after_iff.mpr rfl, Cond.after_iff.mpr (eq_i res_at (Term.int_eval (1)) rfl), trivial⟩ ⟨hq.1, hq.2.1, hq.2.2.1, (hq.2.2.2.sift fun y hy => Or.inr (N y hy)).mono (by decide) (by decide)⟩⟩
theorem main_1_1 : Claimed_1_1 := comes_1 fun _ _ _ _ _ _ h hF => ⟨h.1, hF⟩
theorem main_1_2 : Claimed_1_2 := comes_1 fun _ _ _ _ _ _ h hF => ⟨h.2.1, hF⟩
end Jvm.Pilot.@@N@@
/-! witness -/
namespace Jvm.Pilot.@@N@@
open Jvm Jvm.ClassFile Sem Op Lib Jvm.Free Jvm.Stand Jvm.Pilot.@@N@@.Jvm.D
/-! MADE BY PROGRAM (witnessworld.py) out of the Statement's table words and the real class files: 42 classes; the members and pool entries that the words name. The judged class is class 1, her method 1. -/
namespace start1
open Jvm.ClassFile
abbrev v0 : String := "java/lang/Object"
abbrev v1 : String := "java/util/List"
abbrev v2 : String := "java/util/ArrayList"
abbrev v3 : String := "(I)Ljava/lang/Object;"
abbrev v4 : String := "java/lang/String"
abbrev v5 : String := "java/util/ImmutableCollections$ListN"
abbrev v6 : String := "com/example/count_calibrated_demand/countcalibrateddemand/Plan"
abbrev v7 : String := "java/util/OptionalDouble"
abbrev v8 : String := "java/util/ImmutableCollections"
abbrev v9 : String := "com/example/count_calibrated_demand/countcalibrateddemand/Activity"
abbrev v10 : String := "()[Ljava/lang/Object;"
abbrev v11 : String := "java/util/ImmutableCollections$List12"
abbrev v12 : String := "(Ljava/util/Collection;)Ljava/util/List;"
abbrev v13 : String := "()Ljava/util/List;"
abbrev v14 : String := "java/util/Arrays"
abbrev v15 : String := "java/util/Objects"
abbrev v16 : String := "com/example/count_calibrated_demand/countcalibrateddemand/Person"
abbrev v17 : String := "([Ljava/lang/Object;)Ljava/util/List;"
abbrev v18 : String := "java/lang/Math"
abbrev v19 : String := "com/example/count_calibrated_demand/countcalibrateddemand/LegTimes"
abbrev v20 : String := "java/util/Collection"
abbrev v21 : String := "java/util/ImmutableCollections$AbstractImmutableList"
abbrev v22 : String := "java/util/function/BiFunction"
abbrev v23 : String := "java/io/Serializable"
abbrev v24 : String := "java/util/AbstractCollection"
abbrev v25 : String := "(Ljava/lang/Object;)Ljava/lang/Object;"
abbrev v26 : String := "java/util/ImmutableCollections$AbstractImmutableCollection"
abbrev v27 : String := "java/io/PrintStream"
abbrev v28 : String := "(Ljava/lang/String;III)V"
abbrev v29 : String := "com/example/count_calibrated_demand/countcalibrateddemand/Leg"
abbrev v30 : String := "(Ljava/lang/Object;)Z"
abbrev v31 : String := "(Ljava/util/List;Ljava/util/List;)V"
abbrev v32 : String := "(Ljava/lang/String;Ljava/util/List;I)V"
abbrev v33 : String := "(Ljava/util/List;)V"
abbrev v34 : String := "(Ljava/lang/Object;)V"
abbrev v35 : String := "(Ljava/lang/Object;Ljava/lang/Object;)V"
abbrev v36 : String := "java/util/AbstractList"
abbrev v37 : String := "[Ljava/lang/Object;"
abbrev v38 : String := "([Ljava/lang/Object;I)[Ljava/lang/Object;"
abbrev v39 : String := "()Ljava/util/OptionalDouble;"
abbrev v40 : String := "([Ljava/lang/Object;Z)V"
abbrev v41 : String := "jdk/internal/util/Preconditions"
abbrev v42 : String := "(IILjava/util/function/BiFunction;)I"
abbrev v43 : String := "()Lcom/example/count_calibrated_demand/countcalibrateddemand/Plan;"
abbrev v44 : String := "(Ljava/lang/String;IIILcom/example/count_calibrated_demand/countcalibrateddemand/Coordinates;)V"
abbrev v45 : String := "(Ljava/lang/Object;[Ljava/lang/Object;I)V"
abbrev v46 : String := "([Ljava/lang/Object;ILjava/lang/Class;)[Ljava/lang/Object;"
abbrev v47 : String := "com/example/count_calibrated_demand/countcalibrateddemand/Coordinates"
abbrev v48 : String := "java/lang/constant/ConstantDesc"
abbrev v49 : String := "java/util/SequencedCollection"
abbrev v50 : String := "java/util/ImmutableCollections$SetN"
abbrev v51 : String := "java/util/ImmutableCollections$MapN"
abbrev v52 : String := "(Ljava/lang/Object;ILjava/lang/Object;II)V"
abbrev v53 : String := "com/example/count_calibrated_demand/countcalibrateddemand/SimulationListener"
abbrev v54 : String := "com/example/count_calibrated_demand/countcalibrateddemand/LegTimesPersonsTravellingPinLaw"
def u (s : String) : CpInfo := .utf8 (stringToUtf16 s)
def gap : Nat → List CpInfo → List CpInfo
  | 0, r => r
  | n + 1, r => .unusable :: gap n r
def poolList (es : List (Nat × CpInfo)) (last : Nat) : List CpInfo := es.foldr (fun e r => gap e.1 (e.2 :: r)) (gap last [])
def pool (es : List (Nat × CpInfo)) (last : Nat) : Array CpInfo := ⟨poolList es last⟩
def fileOf (pool : Array CpInfo) (this : Nat) (attrs : Array Attribute := #[]) (ms : Array MethodInfo := #[]) (fl : Nat := 33) (sup : Nat := 0) (ifs : Array Nat := #[]) (fds : Array FieldInfo := #[]) : ClassFile where
  minorVersion := 0
  majorVersion := 65
  constantPool := pool
  accessFlags := fl
  thisClass := this
  superClass := sup
  interfaces := ifs
  fields := fds
  methods := ms
  attributes := attrs
def plain (name : String) (sup : Option ClassId) : Class where
  name := name
  kind := .ordinary
  loader := none
  accessFlags := 33
  super := sup
  interfaces := #[]
  cf := none
  fields := #[]
  methods := #[]
  instanceTypes := #[]
  staticTypes := #[]
  resolved := #[]
  callSites := []
  init := .initialized
  statics := none
  mirror := none

def pool0 : Array CpInfo := pool [(5, u "<init>"), (0, u "()V"), (1, .class_ 10), (1, u v0), (0, u "getClass"), (0, u "()Ljava/lang/Class;")] 111

def k0c0 : Code := { maxStack := 0, maxLocals := 1, code := object_method_1_code, exceptionTable := #[], attributes := #[] }
def k0m0 : Method := { name := "<init>", desc := "()V", sig := { parameters := [], returnType := none }, accessFlags := 1, code := some k0c0 }
def k0m1 : Method := { name := "getClass", desc := "()Ljava/lang/Class;", sig := { parameters := [], returnType := some (.object "java/lang/Class") }, accessFlags := 273, code := none }
def k0 : Class := { plain v0 none with
  accessFlags := 33
  interfaces := #[]
  cf := some (fileOf pool0 8 #[] #[{ accessFlags := 1, nameIndex := 5, descriptorIndex := 6, attributes := #[] }, { accessFlags := 273, nameIndex := 11, descriptorIndex := 12, attributes := #[] }] 33 0 #[] #[])
  fields := #[]
  methods := #[k0m0, k0m1]
  instanceTypes := #[]
  staticTypes := #[]
  resolved := Array.replicate 124 none
  statics := none }

def pool1 : Array CpInfo := pool [(2, .class_ 4), (0, .nameAndType 5 6), (0, u v0), (0, u "<init>"), (0, u "()V"), (0, .integer 2147483647), (0, .class_ 9), (0, u v9), (0, .string 11), (0, u "h"), (0, .methodref 8 13), (0, .nameAndType 5 14), (0, u v28), (0, .class_ 16), (0, u v29), (0, .methodref 15 18), (0, .nameAndType 5 19), (0, u "([I)V"), (0, .class_ 21), (0, u v2), (0, .methodref 20 3), (0, .methodref 20 24), (0, .nameAndType 25 26), (0, u "add"), (0, u v30), (0, .class_ 28), (0, u v6), (0, .methodref 27 30), (0, .nameAndType 5 31), (0, u v31), (0, .class_ 33), (0, u v16), (0, .string 35), (0, u "p"), (0, .methodref 32 37), (0, .nameAndType 5 38), (0, u v32), (0, .class_ 40), (0, u v19), (0, .methodref 39 42), (0, .nameAndType 5 43), (0, u v33), (0, .methodref 39 45), (0, .nameAndType 46 47), (0, u "personsTravelling"), (0, u "()I"), (0, .class_ 49), (0, u v54), (2, u "law"), (0, u "(IIII)Z")] 3

def k1m0 : Method := { name := "<init>", desc := "()V", sig := { parameters := [], returnType := none }, accessFlags := 2, code := none }
def k1c1 : Code := { maxStack := 6, maxLocals := 26, code := code, exceptionTable := #[], attributes := #[] }
def k1m1 : Method := { name := "law", desc := "(IIII)Z", sig := { parameters := [.int, .int, .int, .int], returnType := some .boolean }, accessFlags := 9, code := some k1c1 }
def k1 : Class := { plain v54 (some 0) with
  accessFlags := 49
  interfaces := #[]
  cf := some (fileOf pool1 48 #[] #[{ accessFlags := 2, nameIndex := 5, descriptorIndex := 6, attributes := #[] }, { accessFlags := 9, nameIndex := 52, descriptorIndex := 53, attributes := #[] }] 49 2 #[] #[])
  fields := #[]
  methods := #[k1m0, k1m1]
  instanceTypes := #[]
  staticTypes := #[]
  resolved := Array.replicate 57 none
  statics := none }

def pool2 : Array CpInfo := pool [(1, .methodref 2 3), (0, .class_ 4), (0, .nameAndType 5 6), (0, u v0), (0, u "<init>"), (0, u "()V"), (0, .class_ 8), (0, u "java/lang/Record")] 13

def k2c0 : Code := { maxStack := 1, maxLocals := 1, code := jdk_30_method_1_code, exceptionTable := #[], attributes := #[] }
def k2m0 : Method := { name := "<init>", desc := "()V", sig := { parameters := [], returnType := none }, accessFlags := 4, code := some k2c0 }
def k2 : Class := { plain "java/lang/Record" (some 0) with
  accessFlags := 1057
  interfaces := #[]
  cf := some (fileOf pool2 7 #[] #[{ accessFlags := 4, nameIndex := 5, descriptorIndex := 6, attributes := #[] }] 1057 2 #[] #[])
  fields := #[]
  methods := #[k2m0]
  instanceTypes := #[]
  staticTypes := #[]
  resolved := Array.replicate 22 none
  statics := none }

def pool3 : Array CpInfo := pool [(1, .methodref 2 3), (0, .class_ 4), (0, .nameAndType 5 6), (0, u "java/lang/Record"), (0, u "<init>"), (0, u "()V"), (0, .fieldref 8 9), (0, .class_ 10), (0, .nameAndType 11 12), (0, u v9), (0, u "type"), (0, u "Ljava/lang/String;"), (0, .fieldref 8 14), (0, .nameAndType 15 16), (0, u "link"), (0, u "I"), (0, .fieldref 8 18), (0, .nameAndType 19 16), (0, u "endTime"), (0, .fieldref 8 21), (0, .nameAndType 22 16), (0, u "maxDuration"), (0, .fieldref 8 24), (0, .nameAndType 25 26), (0, u "coordinates"), (0, u "Lcom/example/count_calibrated_demand/countcalibrateddemand/Coordinates;"), (0, .methodref 8 28), (0, .nameAndType 5 29), (0, u v44), (23, u "()I"), (16, u v28)] 37

def k3c0 : Code := { maxStack := 6, maxLocals := 5, code := prog_1_method_1_code, exceptionTable := #[], attributes := #[] }
def k3m0 : Method := { name := "<init>", desc := v28, sig := { parameters := [(.object v4), .int, .int, .int], returnType := none }, accessFlags := 1, code := some k3c0 }
def k3c1 : Code := { maxStack := 2, maxLocals := 6, code := prog_1_method_2_code, exceptionTable := #[], attributes := #[] }
def k3m1 : Method := { name := "<init>", desc := v44, sig := { parameters := [(.object v4), .int, .int, .int, (.object v47)], returnType := none }, accessFlags := 1, code := some k3c1 }
def k3c2 : Code := { maxStack := 1, maxLocals := 1, code := prog_1_method_10_code, exceptionTable := #[], attributes := #[] }
def k3m2 : Method := { name := "endTime", desc := "()I", sig := { parameters := [], returnType := some .int }, accessFlags := 1, code := some k3c2 }
def k3 : Class := { plain v9 (some 2) with
  accessFlags := 49
  interfaces := #[]
  cf := some (fileOf pool3 8 #[] #[{ accessFlags := 1, nameIndex := 5, descriptorIndex := 70, attributes := #[] }, { accessFlags := 1, nameIndex := 5, descriptorIndex := 29, attributes := #[] }, { accessFlags := 1, nameIndex := 19, descriptorIndex := 53, attributes := #[] }] 49 2 #[] #[{ accessFlags := 18, nameIndex := 11, descriptorIndex := 12, attributes := #[] }, { accessFlags := 18, nameIndex := 15, descriptorIndex := 16, attributes := #[] }, { accessFlags := 18, nameIndex := 19, descriptorIndex := 16, attributes := #[] }, { accessFlags := 18, nameIndex := 22, descriptorIndex := 16, attributes := #[] }, { accessFlags := 18, nameIndex := 25, descriptorIndex := 26, attributes := #[] }])
  fields := #[{ name := "type", type := (.object v4), accessFlags := 18, slot := 0, constantValue := 0 }, { name := "link", type := .int, accessFlags := 18, slot := 1, constantValue := 0 }, { name := "endTime", type := .int, accessFlags := 18, slot := 2, constantValue := 0 }, { name := "maxDuration", type := .int, accessFlags := 18, slot := 3, constantValue := 0 }, { name := "coordinates", type := (.object v47), accessFlags := 18, slot := 4, constantValue := 0 }]
  methods := #[k3m0, k3m1, k3m2]
  instanceTypes := #[(.object v4), .int, .int, .int, (.object v47)]
  staticTypes := #[]
  resolved := Array.replicate 108 none
  statics := none }

def pool4 : Array CpInfo := pool [(1, .class_ 2), (0, u v23), (0, .class_ 4), (0, u v0)] 2

def k4 : Class := { plain v23 (some 0) with
  accessFlags := 1537
  interfaces := #[]
  cf := some (fileOf pool4 1 #[] #[] 1537 3 #[] #[])
  fields := #[]
  methods := #[]
  instanceTypes := #[]
  staticTypes := #[]
  resolved := Array.replicate 7 none
  statics := none }

def pool5 : Array CpInfo := pool [(1, .class_ 2), (0, u "java/lang/Comparable"), (0, .class_ 4), (0, u v0)] 7

def k5 : Class := { plain "java/lang/Comparable" (some 0) with
  accessFlags := 1537
  interfaces := #[]
  cf := some (fileOf pool5 1 #[] #[] 1537 3 #[] #[])
  fields := #[]
  methods := #[]
  instanceTypes := #[]
  staticTypes := #[]
  resolved := Array.replicate 12 none
  statics := none }

def pool6 : Array CpInfo := pool [(2, .class_ 4), (1, u "java/lang/CharSequence"), (42, .class_ 48), (0, u "java/lang/CharSequence$1CodePointIterator"), (10, .class_ 60), (0, u "java/lang/CharSequence$1CharIterator"), (5, .class_ 67), (0, u v0)] 63

def k6 : Class := { plain "java/lang/CharSequence" (some 0) with
  accessFlags := 1537
  interfaces := #[]
  cf := some (fileOf pool6 2 #[.nestMembers #[47, 59]] #[] 1537 66 #[] #[])
  fields := #[]
  methods := #[]
  instanceTypes := #[]
  staticTypes := #[]
  resolved := Array.replicate 131 none
  statics := none }

def pool7 : Array CpInfo := pool [(1, .class_ 2), (0, u "java/lang/constant/Constable"), (0, .class_ 4), (0, u v0)] 6

def k7 : Class := { plain "java/lang/constant/Constable" (some 0) with
  accessFlags := 1537
  interfaces := #[]
  cf := some (fileOf pool7 1 #[] #[] 1537 3 #[] #[])
  fields := #[]
  methods := #[]
  instanceTypes := #[]
  staticTypes := #[]
  resolved := Array.replicate 11 none
  statics := none }

def pool8 : Array CpInfo := pool [(1, .class_ 2), (0, u v48), (0, .class_ 4), (0, u v0)] 32

def k8 : Class := { plain v48 (some 0) with
  accessFlags := 1537
  interfaces := #[]
  cf := some (fileOf pool8 1 #[] #[] 1537 3 #[] #[])
  fields := #[]
  methods := #[]
  instanceTypes := #[]
  staticTypes := #[]
  resolved := Array.replicate 37 none
  statics := none }

def pool9 : Array CpInfo := pool [(2, .class_ 4), (1, u v0), (0, u "<init>"), (0, u "()V"), (3, .class_ 12), (1, u v4), (0, u "value"), (0, u "[B"), (2, u "coder"), (0, u "B"), (2, u "hash"), (0, u "I"), (2, u "hashIsZero"), (0, u "Z"), (13, u "COMPACT_STRINGS"), (534, .class_ 576), (0, u "java/lang/CharSequence"), (22, u "CASE_INSENSITIVE_ORDER"), (0, u "Ljava/util/Comparator;"), (500, u "serialPersistentFields"), (0, u "[Ljava/io/ObjectStreamField;"), (0, .class_ 1104), (0, u "java/lang/String$CaseInsensitiveComparator"), (1, .class_ 1107), (0, u v23), (0, .class_ 1109), (0, u "java/lang/Comparable"), (0, .class_ 1111), (0, u "java/lang/constant/Constable"), (0, .class_ 1113), (0, u v48), (2, u "serialVersionUID"), (0, u "J"), (3, u "REPL"), (0, u "C"), (2, u "LATIN1"), (1, u "UTF16")] 323

def k9m0 : Method := { name := "<init>", desc := "()V", sig := { parameters := [], returnType := none }, accessFlags := 1, code := none }
def k9 : Class := { plain v4 (some 0) with
  accessFlags := 49
  interfaces := #[4, 5, 6, 7, 8]
  cf := some (fileOf pool9 10 #[.nestMembers #[1103]] #[{ accessFlags := 1, nameIndex := 5, descriptorIndex := 6, attributes := #[] }] 49 2 #[1106, 1108, 575, 1110, 1112] #[{ accessFlags := 18, nameIndex := 13, descriptorIndex := 14, attributes := #[] }, { accessFlags := 18, nameIndex := 17, descriptorIndex := 18, attributes := #[] }, { accessFlags := 2, nameIndex := 21, descriptorIndex := 22, attributes := #[] }, { accessFlags := 2, nameIndex := 25, descriptorIndex := 26, attributes := #[] }, { accessFlags := 26, nameIndex := 1116, descriptorIndex := 1117, attributes := #[] }, { accessFlags := 24, nameIndex := 40, descriptorIndex := 26, attributes := #[] }, { accessFlags := 26, nameIndex := 1101, descriptorIndex := 1102, attributes := #[] }, { accessFlags := 26, nameIndex := 1121, descriptorIndex := 1122, attributes := #[] }, { accessFlags := 25, nameIndex := 599, descriptorIndex := 600, attributes := #[] }, { accessFlags := 24, nameIndex := 1125, descriptorIndex := 18, attributes := #[] }, { accessFlags := 24, nameIndex := 1127, descriptorIndex := 18, attributes := #[] }])
  fields := #[{ name := "value", type := (.array .byte), accessFlags := 18, slot := 0, constantValue := 0 }, { name := "coder", type := .byte, accessFlags := 18, slot := 1, constantValue := 0 }, { name := "hash", type := .int, accessFlags := 2, slot := 2, constantValue := 0 }, { name := "hashIsZero", type := .boolean, accessFlags := 2, slot := 3, constantValue := 0 }, { name := "serialVersionUID", type := .long, accessFlags := 26, slot := 0, constantValue := 0 }, { name := "COMPACT_STRINGS", type := .boolean, accessFlags := 24, slot := 1, constantValue := 0 }, { name := "serialPersistentFields", type := (.array (.object "java/io/ObjectStreamField")), accessFlags := 26, slot := 2, constantValue := 0 }, { name := "REPL", type := .char, accessFlags := 26, slot := 3, constantValue := 0 }, { name := "CASE_INSENSITIVE_ORDER", type := (.object "java/util/Comparator"), accessFlags := 25, slot := 4, constantValue := 0 }, { name := "LATIN1", type := .byte, accessFlags := 24, slot := 5, constantValue := 0 }, { name := "UTF16", type := .byte, accessFlags := 24, slot := 6, constantValue := 0 }]
  methods := #[k9m0]
  instanceTypes := #[(.array .byte), .byte, .int, .boolean]
  staticTypes := #[.long, .boolean, (.array (.object "java/io/ObjectStreamField")), .char, (.object "java/util/Comparator"), .byte, .byte]
  resolved := Array.replicate 1451 none
  statics := none }

def pool10 : Array CpInfo := pool [(1, .methodref 2 3), (0, .class_ 4), (0, .nameAndType 5 6), (0, u v0), (0, u "<init>"), (0, u "()V"), (0, .fieldref 8 9), (0, .class_ 10), (0, .nameAndType 11 12), (0, u v29), (0, u "route"), (0, u "[I"), (0, u "([I)V")] 6

def k10c0 : Code := { maxStack := 2, maxLocals := 2, code := prog_31_method_1_code, exceptionTable := #[], attributes := #[] }
def k10m0 : Method := { name := "<init>", desc := "([I)V", sig := { parameters := [(.array .int)], returnType := none }, accessFlags := 1, code := some k10c0 }
def k10 : Class := { plain v29 (some 0) with
  accessFlags := 49
  interfaces := #[]
  cf := some (fileOf pool10 8 #[] #[{ accessFlags := 1, nameIndex := 5, descriptorIndex := 13, attributes := #[] }] 49 2 #[] #[{ accessFlags := 2, nameIndex := 11, descriptorIndex := 12, attributes := #[] }])
  fields := #[{ name := "route", type := (.array .int), accessFlags := 2, slot := 0, constantValue := 0 }]
  methods := #[k10m0]
  instanceTypes := #[(.array .int)]
  staticTypes := #[]
  resolved := Array.replicate 20 none
  statics := none }

def pool11 : Array CpInfo := pool [(8, .class_ 10), (1, u "java/lang/Iterable"), (24, .class_ 36), (0, u v0)] 25

def k11 : Class := { plain "java/lang/Iterable" (some 0) with
  accessFlags := 1537
  interfaces := #[]
  cf := some (fileOf pool11 8 #[] #[] 1537 35 #[] #[])
  fields := #[]
  methods := #[]
  instanceTypes := #[]
  staticTypes := #[]
  resolved := Array.replicate 62 none
  statics := none }

def pool12 : Array CpInfo := pool [(10, .class_ 12), (1, u v20), (0, u "toArray"), (16, u "()Z"), (29, .class_ 61), (0, u v0), (0, .class_ 63), (0, u "java/lang/Iterable"), (2, u "isEmpty"), (3, u v10)] 44

def k12m0 : Method := { name := "isEmpty", desc := "()Z", sig := { parameters := [], returnType := some .boolean }, accessFlags := 1025, code := none }
def k12m1 : Method := { name := "toArray", desc := v10, sig := { parameters := [], returnType := some (.array (.object v0)) }, accessFlags := 1025, code := none }
def k12 : Class := { plain v20 (some 0) with
  accessFlags := 1537
  interfaces := #[11]
  cf := some (fileOf pool12 10 #[] #[{ accessFlags := 1025, nameIndex := 66, descriptorIndex := 30, attributes := #[] }, { accessFlags := 1025, nameIndex := 13, descriptorIndex := 70, attributes := #[] }] 1537 60 #[62] #[])
  fields := #[]
  methods := #[k12m0, k12m1]
  instanceTypes := #[]
  staticTypes := #[]
  resolved := Array.replicate 115 none
  statics := none }

def pool13 : Array CpInfo := pool [(1, .methodref 2 3), (0, .class_ 4), (0, .nameAndType 5 6), (0, u v0), (0, u "<init>"), (0, u "()V"), (1, .class_ 10), (1, u v24), (66, .class_ 78), (0, u v20)] 81

def k13c0 : Code := { maxStack := 1, maxLocals := 1, code := jdk_22_method_1_code, exceptionTable := #[], attributes := #[] }
def k13m0 : Method := { name := "<init>", desc := "()V", sig := { parameters := [], returnType := none }, accessFlags := 4, code := some k13c0 }
def k13 : Class := { plain v24 (some 0) with
  accessFlags := 1057
  interfaces := #[12]
  cf := some (fileOf pool13 8 #[] #[{ accessFlags := 4, nameIndex := 5, descriptorIndex := 6, attributes := #[] }] 1057 2 #[77] #[])
  fields := #[]
  methods := #[k13m0]
  instanceTypes := #[]
  staticTypes := #[]
  resolved := Array.replicate 160 none
  statics := none }

def pool14 : Array CpInfo := pool [(8, .class_ 10), (1, u v49), (15, .class_ 27), (0, u v0), (0, .class_ 29), (0, u v20)] 27

def k14 : Class := { plain v49 (some 0) with
  accessFlags := 1537
  interfaces := #[12]
  cf := some (fileOf pool14 8 #[] #[] 1537 26 #[28] #[])
  fields := #[]
  methods := #[]
  instanceTypes := #[]
  staticTypes := #[]
  resolved := Array.replicate 57 none
  statics := none }

def pool15 : Array CpInfo := pool [(8, .class_ 10), (1, u v1), (7, u "()Z"), (12, u v34), (16, u "<init>"), (18, u "isEmpty"), (7, u "get"), (0, u v3), (2, u "size"), (0, u "()I"), (7, u "of"), (1, .fieldref 91 92), (0, .class_ 93), (0, .nameAndType 94 95), (0, u v8), (0, u "EMPTY_LIST"), (0, u "Ljava/util/ImmutableCollections$ListN;"), (0, .class_ 97), (0, u v11), (0, .methodref 96 99), (0, .nameAndType 48 31), (0, .methodref 96 101), (0, .nameAndType 48 102), (0, u v35), (0, .class_ 104), (0, u v0), (3, u v17), (0, .methodref 91 110), (0, .nameAndType 111 108), (0, u "listFromArray"), (0, .methodref 91 113), (0, .nameAndType 114 115), (0, u "listCopy"), (0, u v12), (3, u v13), (0, .class_ 121), (0, u v49), (112, u "copyOf")] 16

def k15m0 : Method := { name := "size", desc := "()I", sig := { parameters := [], returnType := some .int }, accessFlags := 1025, code := none }
def k15m1 : Method := { name := "isEmpty", desc := "()Z", sig := { parameters := [], returnType := some .boolean }, accessFlags := 1025, code := none }
def k15m2 : Method := { name := "get", desc := v3, sig := { parameters := [.int], returnType := some (.object v0) }, accessFlags := 1025, code := none }
def k15c3 : Code := { maxStack := 1, maxLocals := 0, code := jdk_40_method_36_code, exceptionTable := #[], attributes := #[] }
def k15m3 : Method := { name := "of", desc := v13, sig := { parameters := [], returnType := some (.object v1) }, accessFlags := 9, code := some k15c3 }
def k15c4 : Code := { maxStack := 5, maxLocals := 2, code := jdk_40_method_47_code, exceptionTable := #[], attributes := #[] }
def k15m4 : Method := { name := "of", desc := v17, sig := { parameters := [(.array (.object v0))], returnType := some (.object v1) }, accessFlags := 137, code := some k15c4 }
def k15c5 : Code := { maxStack := 1, maxLocals := 1, code := jdk_40_method_48_code, exceptionTable := #[], attributes := #[] }
def k15m5 : Method := { name := "copyOf", desc := v12, sig := { parameters := [(.object v20)], returnType := some (.object v1) }, accessFlags := 9, code := some k15c5 }
def k15 : Class := { plain v1 (some 0) with
  accessFlags := 1537
  interfaces := #[14]
  cf := some (fileOf pool15 8 #[] #[{ accessFlags := 1025, nameIndex := 79, descriptorIndex := 80, attributes := #[] }, { accessFlags := 1025, nameIndex := 67, descriptorIndex := 18, attributes := #[] }, { accessFlags := 1025, nameIndex := 75, descriptorIndex := 76, attributes := #[] }, { accessFlags := 9, nameIndex := 88, descriptorIndex := 119, attributes := #[] }, { accessFlags := 137, nameIndex := 88, descriptorIndex := 108, attributes := #[] }, { accessFlags := 9, nameIndex := 234, descriptorIndex := 115, attributes := #[] }] 1537 103 #[120] #[])
  fields := #[]
  methods := #[k15m0, k15m1, k15m2, k15m3, k15m4, k15m5]
  instanceTypes := #[]
  staticTypes := #[]
  resolved := Array.replicate 251 none
  statics := none }

def pool16 : Array CpInfo := pool [(1, .methodref 2 3), (0, .class_ 4), (0, .nameAndType 5 6), (0, u v24), (0, u "<init>"), (0, u "()V"), (0, .fieldref 8 9), (0, .class_ 10), (0, .nameAndType 11 12), (0, u v36), (0, u "modCount"), (0, u "I"), (64, .class_ 78), (0, u "java/util/AbstractList$Itr"), (3, .class_ 83), (0, u "java/util/AbstractList$ListItr"), (9, .class_ 94), (0, u "java/util/AbstractList$RandomAccessSubList"), (3, .class_ 99), (0, u "java/util/AbstractList$SubList"), (33, .class_ 134), (0, u v1), (73, .class_ 209), (0, u "java/util/AbstractList$SubList$1"), (0, .class_ 211), (0, u "java/util/AbstractList$RandomAccessSpliterator")] 6

def k16c0 : Code := { maxStack := 2, maxLocals := 1, code := jdk_39_method_1_code, exceptionTable := #[], attributes := #[] }
def k16m0 : Method := { name := "<init>", desc := "()V", sig := { parameters := [], returnType := none }, accessFlags := 4, code := some k16c0 }
def k16 : Class := { plain v36 (some 13) with
  accessFlags := 1057
  interfaces := #[15]
  cf := some (fileOf pool16 8 #[.nestMembers #[93, 98, 208, 210, 82, 77]] #[{ accessFlags := 4, nameIndex := 5, descriptorIndex := 6, attributes := #[] }] 1057 2 #[133] #[{ accessFlags := 132, nameIndex := 11, descriptorIndex := 12, attributes := #[] }])
  fields := #[{ name := "modCount", type := .int, accessFlags := 132, slot := 0, constantValue := 0 }]
  methods := #[k16m0]
  instanceTypes := #[.int]
  staticTypes := #[]
  resolved := Array.replicate 218 none
  statics := none }

def pool17 : Array CpInfo := pool [(1, .class_ 2), (0, u "java/util/RandomAccess"), (0, .class_ 4), (0, u v0)] 2

def k17 : Class := { plain "java/util/RandomAccess" (some 0) with
  accessFlags := 1537
  interfaces := #[]
  cf := some (fileOf pool17 1 #[] #[] 1537 3 #[] #[])
  fields := #[]
  methods := #[]
  instanceTypes := #[]
  staticTypes := #[]
  resolved := Array.replicate 7 none
  statics := none }

def pool18 : Array CpInfo := pool [(1, .class_ 2), (0, u "java/lang/Cloneable"), (0, .class_ 4), (0, u v0)] 2

def k18 : Class := { plain "java/lang/Cloneable" (some 0) with
  accessFlags := 1537
  interfaces := #[]
  cf := some (fileOf pool18 1 #[] #[] 1537 3 #[] #[])
  fields := #[]
  methods := #[]
  instanceTypes := #[]
  staticTypes := #[]
  resolved := Array.replicate 7 none
  statics := none }

def pool19 : Array CpInfo := pool [(1, .methodref 2 3), (0, .class_ 4), (0, .nameAndType 5 6), (0, u v36), (0, u "<init>"), (0, u "()V"), (0, .class_ 8), (0, u v0), (0, .fieldref 10 11), (0, .class_ 12), (0, .nameAndType 13 14), (0, u v2), (0, u "elementData"), (0, u v37), (2, u "EMPTY_ELEMENTDATA"), (21, .fieldref 10 40), (0, .nameAndType 41 14), (0, u "DEFAULTCAPACITY_EMPTY_ELEMENTDATA"), (4, u "toArray"), (0, u v10), (0, .fieldref 10 49), (0, .nameAndType 50 51), (0, u "size"), (0, u "I"), (6, .class_ 60), (1, u v14), (0, u "copyOf"), (1, .fieldref 10 64), (0, .nameAndType 65 51), (0, u "modCount"), (0, .methodref 58 67), (0, .nameAndType 61 68), (0, u v38), (0, .methodref 10 70), (0, .nameAndType 71 72), (0, u "grow"), (0, u "(I)[Ljava/lang/Object;"), (6, .methodref 80 81), (0, .class_ 82), (0, .nameAndType 83 84), (0, u v18), (0, u "max"), (0, u "(II)I"), (11, u v30), (21, .methodref 119 120), (0, .class_ 121), (0, .nameAndType 122 84), (0, u v15), (0, u "checkIndex"), (0, .methodref 10 124), (0, .nameAndType 13 125), (0, u v3), (3, .methodref 10 130), (0, .nameAndType 71 47), (0, .methodref 10 132), (0, .nameAndType 133 134), (0, u "add"), (0, u v45), (13, .class_ 149), (0, u v1), (23, u "()Z"), (12, u "()I"), (75, .class_ 263), (0, u "java/util/ArrayList$ListItr"), (3, .class_ 268), (0, u "java/util/ArrayList$Itr"), (7, .class_ 277), (0, u "java/util/ArrayList$SubList"), (12, .class_ 291), (0, u "java/util/ArrayList$ArrayListSpliterator"), (37, .class_ 330), (0, u "java/util/RandomAccess"), (0, .class_ 332), (0, u "java/lang/Cloneable"), (0, .class_ 334), (0, u v23), (0, u "serialVersionUID"), (0, u "J"), (3, u "DEFAULT_CAPACITY"), (22, u "isEmpty"), (17, u "get"), (118, .class_ 501), (0, u "java/util/ArrayList$SubList$2"), (0, .class_ 503), (0, u "java/util/ArrayList$SubList$1")] 5

def k19c0 : Code := { maxStack := 2, maxLocals := 1, code := jdk_38_method_2_code, exceptionTable := #[], attributes := #[] }
def k19m0 : Method := { name := "<init>", desc := "()V", sig := { parameters := [], returnType := none }, accessFlags := 1, code := some k19c0 }
def k19c1 : Code := { maxStack := 4, maxLocals := 4, code := jdk_38_method_6_code, exceptionTable := #[], attributes := #[] }
def k19m1 : Method := { name := "grow", desc := "(I)[Ljava/lang/Object;", sig := { parameters := [.int], returnType := some (.array (.object v0)) }, accessFlags := 2, code := some k19c1 }
def k19c2 : Code := { maxStack := 3, maxLocals := 1, code := jdk_38_method_7_code, exceptionTable := #[], attributes := #[] }
def k19m2 : Method := { name := "grow", desc := v10, sig := { parameters := [], returnType := some (.array (.object v0)) }, accessFlags := 2, code := some k19c2 }
def k19c3 : Code := { maxStack := 1, maxLocals := 1, code := jdk_38_method_8_code, exceptionTable := #[], attributes := #[] }
def k19m3 : Method := { name := "size", desc := "()I", sig := { parameters := [], returnType := some .int }, accessFlags := 1, code := some k19c3 }
def k19c4 : Code := { maxStack := 1, maxLocals := 1, code := jdk_38_method_9_code, exceptionTable := #[], attributes := #[] }
def k19m4 : Method := { name := "isEmpty", desc := "()Z", sig := { parameters := [], returnType := some .boolean }, accessFlags := 1, code := some k19c4 }
def k19c5 : Code := { maxStack := 2, maxLocals := 1, code := jdk_38_method_16_code, exceptionTable := #[], attributes := #[] }
def k19m5 : Method := { name := "toArray", desc := v10, sig := { parameters := [], returnType := some (.array (.object v0)) }, accessFlags := 1, code := some k19c5 }
def k19c6 : Code := { maxStack := 2, maxLocals := 2, code := jdk_38_method_18_code, exceptionTable := #[], attributes := #[] }
def k19m6 : Method := { name := "elementData", desc := v3, sig := { parameters := [.int], returnType := some (.object v0) }, accessFlags := 0, code := some k19c6 }
def k19c7 : Code := { maxStack := 2, maxLocals := 2, code := jdk_38_method_20_code, exceptionTable := #[], attributes := #[] }
def k19m7 : Method := { name := "get", desc := v3, sig := { parameters := [.int], returnType := some (.object v0) }, accessFlags := 1, code := some k19c7 }
def k19c8 : Code := { maxStack := 3, maxLocals := 4, code := jdk_38_method_24_code, exceptionTable := #[], attributes := #[] }
def k19m8 : Method := { name := "add", desc := v45, sig := { parameters := [(.object v0), (.array (.object v0)), .int], returnType := none }, accessFlags := 2, code := some k19c8 }
def k19c9 : Code := { maxStack := 4, maxLocals := 2, code := jdk_38_method_25_code, exceptionTable := #[], attributes := #[] }
def k19m9 : Method := { name := "add", desc := v30, sig := { parameters := [(.object v0)], returnType := some .boolean }, accessFlags := 1, code := some k19c9 }
def k19 : Class := { plain v2 (some 16) with
  accessFlags := 33
  interfaces := #[15, 17, 18, 4]
  cf := some (fileOf pool19 10 #[.nestMembers #[290, 276, 500, 502, 262, 267]] #[{ accessFlags := 1, nameIndex := 5, descriptorIndex := 6, attributes := #[] }, { accessFlags := 2, nameIndex := 71, descriptorIndex := 72, attributes := #[] }, { accessFlags := 2, nameIndex := 71, descriptorIndex := 47, attributes := #[] }, { accessFlags := 1, nameIndex := 50, descriptorIndex := 186, attributes := #[] }, { accessFlags := 1, nameIndex := 363, descriptorIndex := 173, attributes := #[] }, { accessFlags := 1, nameIndex := 46, descriptorIndex := 47, attributes := #[] }, { accessFlags := 0, nameIndex := 13, descriptorIndex := 125, attributes := #[] }, { accessFlags := 1, nameIndex := 381, descriptorIndex := 125, attributes := #[] }, { accessFlags := 2, nameIndex := 133, descriptorIndex := 134, attributes := #[] }, { accessFlags := 1, nameIndex := 133, descriptorIndex := 96, attributes := #[] }] 33 2 #[148, 329, 331, 333] #[{ accessFlags := 26, nameIndex := 335, descriptorIndex := 336, attributes := #[] }, { accessFlags := 26, nameIndex := 340, descriptorIndex := 51, attributes := #[] }, { accessFlags := 26, nameIndex := 17, descriptorIndex := 14, attributes := #[] }, { accessFlags := 26, nameIndex := 41, descriptorIndex := 14, attributes := #[] }, { accessFlags := 128, nameIndex := 13, descriptorIndex := 14, attributes := #[] }, { accessFlags := 2, nameIndex := 50, descriptorIndex := 51, attributes := #[] }])
  fields := #[{ name := "serialVersionUID", type := .long, accessFlags := 26, slot := 0, constantValue := 0 }, { name := "DEFAULT_CAPACITY", type := .int, accessFlags := 26, slot := 1, constantValue := 0 }, { name := "EMPTY_ELEMENTDATA", type := (.array (.object v0)), accessFlags := 26, slot := 2, constantValue := 0 }, { name := "DEFAULTCAPACITY_EMPTY_ELEMENTDATA", type := (.array (.object v0)), accessFlags := 26, slot := 3, constantValue := 0 }, { name := "elementData", type := (.array (.object v0)), accessFlags := 128, slot := 1, constantValue := 0 }, { name := "size", type := .int, accessFlags := 2, slot := 2, constantValue := 0 }]
  methods := #[k19m0, k19m1, k19m2, k19m3, k19m4, k19m5, k19m6, k19m7, k19m8, k19m9]
  instanceTypes := #[.int, (.array (.object v0)), .int]
  staticTypes := #[.long, .int, (.array (.object v0)), (.array (.object v0))]
  resolved := Array.replicate 509 none
  statics := some 0 }

def pool20 : Array CpInfo := pool [(1, .class_ 2), (0, u v18), (1, .class_ 6), (1, u v0), (0, u "<init>"), (0, u "()V"), (89, .class_ 100), (1, u "java/lang/Math$RandomNumberGeneratorHolder"), (71, u "negativeZeroFloatBits"), (0, u "J"), (2, u "negativeZeroDoubleBits"), (21, u "max"), (2, u "min"), (43, u "$assertionsDisabled"), (0, u "Z"), (88, u "(II)I"), (2, u "twoToTheDoubleScaleDown"), (0, u "D"), (4, u "twoToTheDoubleScaleUp"), (9, u "E"), (3, u "PI"), (2, u "TAU"), (2, u "DEGREES_TO_RADIANS"), (0, u "RADIANS_TO_DEGREES")] 94

def k20m0 : Method := { name := "<init>", desc := "()V", sig := { parameters := [], returnType := none }, accessFlags := 2, code := none }
def k20c1 : Code := { maxStack := 2, maxLocals := 2, code := jdk_29_method_65_code, exceptionTable := #[], attributes := #[] }
def k20m1 : Method := { name := "max", desc := "(II)I", sig := { parameters := [.int, .int], returnType := some .int }, accessFlags := 9, code := some k20c1 }
def k20c2 : Code := { maxStack := 2, maxLocals := 2, code := jdk_29_method_69_code, exceptionTable := #[], attributes := #[] }
def k20m2 : Method := { name := "min", desc := "(II)I", sig := { parameters := [.int, .int], returnType := some .int }, accessFlags := 9, code := some k20c2 }
def k20 : Class := { plain v18 (some 0) with
  accessFlags := 49
  interfaces := #[]
  cf := some (fileOf pool20 1 #[.nestMembers #[98]] #[{ accessFlags := 2, nameIndex := 7, descriptorIndex := 8, attributes := #[] }, { accessFlags := 9, nameIndex := 198, descriptorIndex := 335, attributes := #[] }, { accessFlags := 9, nameIndex := 201, descriptorIndex := 335, attributes := #[] }] 49 4 #[] #[{ accessFlags := 25, nameIndex := 354, descriptorIndex := 339, attributes := #[] }, { accessFlags := 25, nameIndex := 358, descriptorIndex := 339, attributes := #[] }, { accessFlags := 25, nameIndex := 361, descriptorIndex := 339, attributes := #[] }, { accessFlags := 26, nameIndex := 364, descriptorIndex := 339, attributes := #[] }, { accessFlags := 26, nameIndex := 365, descriptorIndex := 339, attributes := #[] }, { accessFlags := 26, nameIndex := 172, descriptorIndex := 173, attributes := #[] }, { accessFlags := 26, nameIndex := 176, descriptorIndex := 173, attributes := #[] }, { accessFlags := 8, nameIndex := 344, descriptorIndex := 339, attributes := #[] }, { accessFlags := 8, nameIndex := 338, descriptorIndex := 339, attributes := #[] }, { accessFlags := 4120, nameIndex := 245, descriptorIndex := 246, attributes := #[] }])
  fields := #[{ name := "E", type := .double, accessFlags := 25, slot := 0, constantValue := 0 }, { name := "PI", type := .double, accessFlags := 25, slot := 1, constantValue := 0 }, { name := "TAU", type := .double, accessFlags := 25, slot := 2, constantValue := 0 }, { name := "DEGREES_TO_RADIANS", type := .double, accessFlags := 26, slot := 3, constantValue := 0 }, { name := "RADIANS_TO_DEGREES", type := .double, accessFlags := 26, slot := 4, constantValue := 0 }, { name := "negativeZeroFloatBits", type := .long, accessFlags := 26, slot := 5, constantValue := 0 }, { name := "negativeZeroDoubleBits", type := .long, accessFlags := 26, slot := 6, constantValue := 0 }, { name := "twoToTheDoubleScaleUp", type := .double, accessFlags := 8, slot := 7, constantValue := 0 }, { name := "twoToTheDoubleScaleDown", type := .double, accessFlags := 8, slot := 8, constantValue := 0 }, { name := "$assertionsDisabled", type := .boolean, accessFlags := 4120, slot := 9, constantValue := 0 }]
  methods := #[k20m0, k20m1, k20m2]
  instanceTypes := #[]
  staticTypes := #[.double, .double, .double, .double, .double, .long, .long, .double, .double, .boolean]
  resolved := Array.replicate 460 none
  statics := none }

def pool21 : Array CpInfo := pool [(1, .methodref 2 3), (0, .class_ 4), (0, .nameAndType 5 6), (0, u v0), (0, u "<init>"), (0, u "()V"), (0, .interfaceMethodref 8 9), (0, .class_ 10), (0, .nameAndType 11 12), (0, u v1), (0, u "isEmpty"), (0, u "()Z"), (0, .interfaceMethodref 8 14), (0, .nameAndType 15 16), (0, u "size"), (0, u "()I"), (9, .interfaceMethodref 8 27), (0, .nameAndType 28 29), (0, u "get"), (0, u v3), (0, .class_ 31), (0, u v9), (0, .methodref 30 33), (0, .nameAndType 34 16), (0, u "endTime"), (6, .interfaceMethodref 8 42), (0, .nameAndType 43 44), (0, u "copyOf"), (0, u v12), (0, .fieldref 46 47), (0, .class_ 48), (0, .nameAndType 49 50), (0, u v6), (0, u "activities"), (0, u "Ljava/util/List;"), (0, .fieldref 46 52), (0, .nameAndType 53 50), (0, u "legs"), (0, .methodref 55 56), (0, .class_ 57), (0, .nameAndType 58 59), (0, u v7), (0, u "empty"), (0, u v39), (0, .fieldref 46 61), (0, .nameAndType 62 63), (0, u "score"), (0, u "Ljava/util/OptionalDouble;"), (19, u v31), (4, u v13)] 25

def k21c0 : Code := { maxStack := 4, maxLocals := 5, code := prog_46_method_1_code, exceptionTable := #[], attributes := #[] }
def k21m0 : Method := { name := "<init>", desc := v31, sig := { parameters := [(.object v1), (.object v1)], returnType := none }, accessFlags := 1, code := some k21c0 }
def k21c1 : Code := { maxStack := 1, maxLocals := 1, code := prog_46_method_4_code, exceptionTable := #[], attributes := #[] }
def k21m1 : Method := { name := "legs", desc := v13, sig := { parameters := [], returnType := some (.object v1) }, accessFlags := 1, code := some k21c1 }
def k21 : Class := { plain v6 (some 0) with
  accessFlags := 49
  interfaces := #[]
  cf := some (fileOf pool21 46 #[] #[{ accessFlags := 1, nameIndex := 5, descriptorIndex := 83, attributes := #[] }, { accessFlags := 1, nameIndex := 53, descriptorIndex := 88, attributes := #[] }] 49 2 #[] #[{ accessFlags := 18, nameIndex := 49, descriptorIndex := 50, attributes := #[] }, { accessFlags := 18, nameIndex := 53, descriptorIndex := 50, attributes := #[] }, { accessFlags := 18, nameIndex := 62, descriptorIndex := 63, attributes := #[] }])
  fields := #[{ name := "activities", type := (.object v1), accessFlags := 18, slot := 0, constantValue := 0 }, { name := "legs", type := (.object v1), accessFlags := 18, slot := 1, constantValue := 0 }, { name := "score", type := (.object v7), accessFlags := 18, slot := 2, constantValue := 0 }]
  methods := #[k21m0, k21m1]
  instanceTypes := #[(.object v1), (.object v1), (.object v7)]
  staticTypes := #[]
  resolved := Array.replicate 114 none
  statics := none }

def pool22 : Array CpInfo := pool [(2, .class_ 4), (1, u v0), (0, u "<init>"), (0, u "()V"), (3, .class_ 11), (0, u v11), (0, .class_ 13), (0, u v5), (3, u "Z"), (0, .class_ 19), (0, u v1), (0, .interfaceMethodref 21 22), (0, .class_ 23), (0, .nameAndType 24 25), (0, u v20), (0, u "isEmpty"), (0, u "()Z"), (0, .interfaceMethodref 18 27), (0, .nameAndType 28 29), (0, u "of"), (0, u v13), (0, .interfaceMethodref 21 31), (0, .nameAndType 32 33), (0, u "toArray"), (0, u v10), (0, .interfaceMethodref 18 35), (0, .nameAndType 28 36), (0, u v17), (0, .methodref 38 39), (0, .class_ 40), (0, .nameAndType 41 42), (0, u v15), (0, u "requireNonNull"), (0, u v25), (0, .methodref 12 44), (0, .nameAndType 5 45), (0, u v40), (1, .class_ 49), (1, u v8), (0, u "$assertionsDisabled"), (5, u v37), (5, u "EMPTY_LIST"), (0, u "Ljava/util/ImmutableCollections$ListN;"), (8, u "EMPTY_LIST_NULLS"), (22, u "SALT32L"), (0, u "J"), (2, u "REVERSE"), (6, u "archivedObjects"), (2, u "EMPTY"), (0, u "Ljava/lang/Object;"), (0, .class_ 112), (0, u v50), (5, u "EMPTY_SET"), (0, u "Ljava/util/ImmutableCollections$SetN;"), (0, .class_ 121), (0, u v51), (3, u "EMPTY_MAP"), (0, u "Ljava/util/ImmutableCollections$MapN;"), (4, u "EXPAND_FACTOR"), (0, u "I"), (9, u "listCopy"), (0, u v12), (7, u "listFromArray"), (17, .class_ 170), (0, u "java/util/ImmutableCollections$MapN$MapNIterator"), (0, .class_ 172), (0, u "java/util/ImmutableCollections$MapN$1"), (0, .class_ 174), (0, u "java/util/ImmutableCollections$Map1"), (0, .class_ 176), (0, u "java/util/ImmutableCollections$AbstractImmutableMap"), (0, .class_ 178), (0, u "java/util/ImmutableCollections$SetN$SetNIterator"), (0, .class_ 180), (0, u "java/util/ImmutableCollections$Set12"), (0, .class_ 182), (0, u "java/util/ImmutableCollections$Set12$1"), (0, .class_ 184), (0, u "java/util/ImmutableCollections$AbstractImmutableSet"), (0, .class_ 186), (0, u "java/util/ImmutableCollections$SubList"), (0, .class_ 188), (0, u "java/util/ImmutableCollections$ListItr"), (0, .class_ 190), (0, u v21), (0, .class_ 192), (0, u v26), (0, .class_ 194), (0, u "java/util/ImmutableCollections$Access"), (0, .class_ 196), (0, u "java/util/ImmutableCollections$Access$1")] 16

def k22m0 : Method := { name := "<init>", desc := "()V", sig := { parameters := [], returnType := none }, accessFlags := 2, code := none }
def k22c1 : Code := { maxStack := 1, maxLocals := 2, code := jdk_56_method_3_code, exceptionTable := #[], attributes := #[] }
def k22m1 : Method := { name := "listCopy", desc := v12, sig := { parameters := [(.object v20)], returnType := some (.object v1) }, accessFlags := 8, code := some k22c1 }
def k22c2 : Code := { maxStack := 4, maxLocals := 3, code := jdk_56_method_4_code, exceptionTable := #[], attributes := #[] }
def k22m2 : Method := { name := "listFromArray", desc := v17, sig := { parameters := [(.array (.object v0))], returnType := some (.object v1) }, accessFlags := 136, code := some k22c2 }
def k22 : Class := { plain v8 (some 0) with
  accessFlags := 32
  interfaces := #[]
  cf := some (fileOf pool22 47 #[.nestMembers #[120, 169, 171, 173, 175, 111, 177, 179, 181, 183, 12, 10, 185, 187, 189, 191, 193, 195]] #[{ accessFlags := 2, nameIndex := 5, descriptorIndex := 6, attributes := #[] }, { accessFlags := 8, nameIndex := 142, descriptorIndex := 143, attributes := #[] }, { accessFlags := 136, nameIndex := 151, descriptorIndex := 36, attributes := #[] }] 32 2 #[] #[{ accessFlags := 26, nameIndex := 95, descriptorIndex := 96, attributes := #[] }, { accessFlags := 26, nameIndex := 99, descriptorIndex := 17, attributes := #[] }, { accessFlags := 10, nameIndex := 106, descriptorIndex := 56, attributes := #[] }, { accessFlags := 26, nameIndex := 109, descriptorIndex := 110, attributes := #[] }, { accessFlags := 24, nameIndex := 62, descriptorIndex := 63, attributes := #[] }, { accessFlags := 24, nameIndex := 72, descriptorIndex := 63, attributes := #[] }, { accessFlags := 24, nameIndex := 118, descriptorIndex := 119, attributes := #[] }, { accessFlags := 24, nameIndex := 125, descriptorIndex := 126, attributes := #[] }, { accessFlags := 24, nameIndex := 131, descriptorIndex := 132, attributes := #[] }, { accessFlags := 4120, nameIndex := 50, descriptorIndex := 17, attributes := #[] }])
  fields := #[{ name := "SALT32L", type := .long, accessFlags := 26, slot := 0, constantValue := 0 }, { name := "REVERSE", type := .boolean, accessFlags := 26, slot := 1, constantValue := 0 }, { name := "archivedObjects", type := (.array (.object v0)), accessFlags := 10, slot := 2, constantValue := 0 }, { name := "EMPTY", type := (.object v0), accessFlags := 26, slot := 3, constantValue := 0 }, { name := "EMPTY_LIST", type := (.object v5), accessFlags := 24, slot := 4, constantValue := 0 }, { name := "EMPTY_LIST_NULLS", type := (.object v5), accessFlags := 24, slot := 5, constantValue := 0 }, { name := "EMPTY_SET", type := (.object v50), accessFlags := 24, slot := 6, constantValue := 0 }, { name := "EMPTY_MAP", type := (.object v51), accessFlags := 24, slot := 7, constantValue := 0 }, { name := "EXPAND_FACTOR", type := .int, accessFlags := 24, slot := 8, constantValue := 0 }, { name := "$assertionsDisabled", type := .boolean, accessFlags := 4120, slot := 9, constantValue := 0 }]
  methods := #[k22m0, k22m1, k22m2]
  instanceTypes := #[]
  staticTypes := #[.long, .boolean, (.array (.object v0)), (.object v0), (.object v5), (.object v5), (.object v50), (.object v51), .int, .boolean]
  resolved := Array.replicate 213 none
  statics := some 1 }

def pool23 : Array CpInfo := pool [(1, .methodref 2 3), (0, .class_ 4), (0, .nameAndType 5 6), (0, u v24), (0, u "<init>"), (0, u "()V"), (1, .class_ 10), (1, u v8), (2, .class_ 14), (0, u v26)] 41

def k23c0 : Code := { maxStack := 1, maxLocals := 1, code := jdk_47_method_1_code, exceptionTable := #[], attributes := #[] }
def k23m0 : Method := { name := "<init>", desc := "()V", sig := { parameters := [], returnType := none }, accessFlags := 0, code := some k23c0 }
def k23 : Class := { plain v26 (some 13) with
  accessFlags := 1056
  interfaces := #[]
  cf := some (fileOf pool23 13 #[.nestHost 8] #[{ accessFlags := 0, nameIndex := 5, descriptorIndex := 6, attributes := #[] }] 1056 2 #[] #[])
  fields := #[]
  methods := #[k23m0]
  instanceTypes := #[]
  staticTypes := #[]
  resolved := Array.replicate 56 none
  statics := none }

def pool24 : Array CpInfo := pool [(1, .methodref 2 3), (0, .class_ 4), (0, .nameAndType 5 6), (0, u v26), (0, u "<init>"), (0, u "()V"), (1, .class_ 10), (1, u v8), (3, .class_ 16), (1, u v21), (60, .class_ 78), (0, u v1), (45, .class_ 125), (0, u "java/util/RandomAccess")] 70

def k24c0 : Code := { maxStack := 1, maxLocals := 1, code := jdk_46_method_1_code, exceptionTable := #[], attributes := #[] }
def k24m0 : Method := { name := "<init>", desc := "()V", sig := { parameters := [], returnType := none }, accessFlags := 0, code := some k24c0 }
def k24 : Class := { plain v21 (some 23) with
  accessFlags := 1056
  interfaces := #[15, 17]
  cf := some (fileOf pool24 14 #[.nestHost 8] #[{ accessFlags := 0, nameIndex := 5, descriptorIndex := 6, attributes := #[] }] 1056 2 #[77, 124] #[])
  fields := #[]
  methods := #[k24m0]
  instanceTypes := #[]
  staticTypes := #[]
  resolved := Array.replicate 196 none
  statics := none }

def pool25 : Array CpInfo := pool [(1, .methodref 2 3), (0, .class_ 4), (0, .nameAndType 5 6), (0, u v21), (0, u "<init>"), (0, u "()V"), (0, .methodref 8 9), (0, .class_ 10), (0, .nameAndType 11 12), (0, u v15), (0, u "requireNonNull"), (0, u v25), (0, .fieldref 14 15), (0, .class_ 16), (0, .nameAndType 17 18), (0, u v11), (0, u "e0"), (0, u "Ljava/lang/Object;"), (0, .fieldref 20 21), (0, .class_ 22), (0, .nameAndType 23 18), (0, u v8), (0, u "EMPTY"), (0, .fieldref 14 25), (0, .nameAndType 26 18), (0, u "e1"), (24, u "size"), (0, u "()I"), (17, .class_ 71), (0, u v23), (4, u v34), (8, u v35)] 39

def k25c0 : Code := { maxStack := 2, maxLocals := 2, code := jdk_44_method_1_code, exceptionTable := #[], attributes := #[] }
def k25m0 : Method := { name := "<init>", desc := v34, sig := { parameters := [(.object v0)], returnType := none }, accessFlags := 0, code := some k25c0 }
def k25c1 : Code := { maxStack := 2, maxLocals := 3, code := jdk_44_method_2_code, exceptionTable := #[], attributes := #[] }
def k25m1 : Method := { name := "<init>", desc := v35, sig := { parameters := [(.object v0), (.object v0)], returnType := none }, accessFlags := 0, code := some k25c1 }
def k25c2 : Code := { maxStack := 2, maxLocals := 1, code := jdk_44_method_3_code, exceptionTable := #[], attributes := #[] }
def k25m2 : Method := { name := "size", desc := "()I", sig := { parameters := [], returnType := some .int }, accessFlags := 1, code := some k25c2 }
def k25 : Class := { plain v11 (some 24) with
  accessFlags := 48
  interfaces := #[4]
  cf := some (fileOf pool25 14 #[.nestHost 20] #[{ accessFlags := 0, nameIndex := 5, descriptorIndex := 76, attributes := #[] }, { accessFlags := 0, nameIndex := 5, descriptorIndex := 85, attributes := #[] }, { accessFlags := 1, nameIndex := 51, descriptorIndex := 52, attributes := #[] }] 48 2 #[70] #[{ accessFlags := 18, nameIndex := 17, descriptorIndex := 18, attributes := #[] }, { accessFlags := 18, nameIndex := 26, descriptorIndex := 18, attributes := #[] }])
  fields := #[{ name := "e0", type := (.object v0), accessFlags := 18, slot := 0, constantValue := 0 }, { name := "e1", type := (.object v0), accessFlags := 18, slot := 1, constantValue := 0 }]
  methods := #[k25m0, k25m1, k25m2]
  instanceTypes := #[(.object v0), (.object v0)]
  staticTypes := #[]
  resolved := Array.replicate 125 none
  statics := none }

def pool26 : Array CpInfo := pool [(1, .methodref 2 3), (0, .class_ 4), (0, .nameAndType 5 6), (0, u v21), (0, u "<init>"), (0, u "()V"), (0, .fieldref 8 9), (0, .class_ 10), (0, .nameAndType 11 12), (0, u v5), (0, u "elements"), (0, u v37), (0, .fieldref 8 14), (0, .nameAndType 15 16), (0, u "allowNulls"), (0, u "Z"), (42, .class_ 60), (0, u v23), (4, u v40), (11, u "size"), (0, u "()I"), (0, u "get"), (0, u v3), (33, .class_ 115), (0, u v8)] 3

def k26c0 : Code := { maxStack := 2, maxLocals := 3, code := jdk_45_method_1_code, exceptionTable := #[], attributes := #[] }
def k26m0 : Method := { name := "<init>", desc := v40, sig := { parameters := [(.array (.object v0)), .boolean], returnType := none }, accessFlags := 2, code := some k26c0 }
def k26c1 : Code := { maxStack := 1, maxLocals := 1, code := jdk_45_method_3_code, exceptionTable := #[], attributes := #[] }
def k26m1 : Method := { name := "size", desc := "()I", sig := { parameters := [], returnType := some .int }, accessFlags := 1, code := some k26c1 }
def k26c2 : Code := { maxStack := 2, maxLocals := 2, code := jdk_45_method_4_code, exceptionTable := #[], attributes := #[] }
def k26m2 : Method := { name := "get", desc := v3, sig := { parameters := [.int], returnType := some (.object v0) }, accessFlags := 1, code := some k26c2 }
def k26 : Class := { plain v5 (some 24) with
  accessFlags := 48
  interfaces := #[4]
  cf := some (fileOf pool26 8 #[.nestHost 114] #[{ accessFlags := 2, nameIndex := 5, descriptorIndex := 65, attributes := #[] }, { accessFlags := 1, nameIndex := 77, descriptorIndex := 78, attributes := #[] }, { accessFlags := 1, nameIndex := 79, descriptorIndex := 80, attributes := #[] }] 48 2 #[59] #[{ accessFlags := 18, nameIndex := 11, descriptorIndex := 12, attributes := #[] }, { accessFlags := 18, nameIndex := 15, descriptorIndex := 16, attributes := #[] }])
  fields := #[{ name := "elements", type := (.array (.object v0)), accessFlags := 18, slot := 0, constantValue := 0 }, { name := "allowNulls", type := .boolean, accessFlags := 18, slot := 1, constantValue := 0 }]
  methods := #[k26m0, k26m1, k26m2]
  instanceTypes := #[(.array (.object v0)), .boolean]
  staticTypes := #[]
  resolved := Array.replicate 119 none
  statics := none }

def pool27 : Array CpInfo := pool [(2, .class_ 4), (1, u v0), (0, u "<init>"), (0, u "()V"), (7, .class_ 16), (1, u v14), (57, .class_ 76), (1, u "java/util/Arrays$NaturalOrder"), (9, .methodref 2 87), (0, .nameAndType 88 89), (0, u "getClass"), (0, u "()Ljava/lang/Class;"), (20, .class_ 111), (0, u v37), (1, .class_ 115), (1, u "java/util/Arrays$LegacyMergeSort"), (1, u "Z"), (32, .methodref 151 152), (0, .class_ 153), (0, .nameAndType 154 155), (0, u "java/lang/System"), (0, u "arraycopy"), (0, u v52), (144, .methodref 14 301), (0, .nameAndType 302 303), (0, u "copyOf"), (0, u v46), (0, .methodref 305 306), (0, .class_ 307), (0, .nameAndType 308 309), (0, u v18), (0, u "min"), (0, u "(II)I"), (65, .class_ 376), (0, u "java/util/Arrays$ArrayList"), (68, u "$assertionsDisabled"), (269, u "MIN_ARRAY_SORT_GRAN"), (0, u "I"), (2, u "INSERTIONSORT_THRESHOLD"), (120, u "fill"), (4, u "([II)V"), (14, u v38), (114, .class_ 976), (0, u "java/util/Arrays$ArrayItr")] 52

def k27m0 : Method := { name := "<init>", desc := "()V", sig := { parameters := [], returnType := none }, accessFlags := 2, code := none }
def k27c1 : Code := { maxStack := 3, maxLocals := 4, code := jdk_65_method_103_code, exceptionTable := #[], attributes := #[] }
def k27m1 : Method := { name := "fill", desc := "([II)V", sig := { parameters := [(.array .int), .int], returnType := none }, accessFlags := 9, code := some k27c1 }
def k27c2 : Code := { maxStack := 3, maxLocals := 2, code := jdk_65_method_119_code, exceptionTable := #[], attributes := #[] }
def k27m2 : Method := { name := "copyOf", desc := v38, sig := { parameters := [(.array (.object v0)), .int], returnType := some (.array (.object v0)) }, accessFlags := 9, code := some k27c2 }
def k27c3 : Code := { maxStack := 6, maxLocals := 4, code := jdk_65_method_120_code, exceptionTable := #[], attributes := #[] }
def k27m3 : Method := { name := "copyOf", desc := v46, sig := { parameters := [(.array (.object v0)), .int, (.object "java/lang/Class")], returnType := some (.array (.object v0)) }, accessFlags := 9, code := some k27c3 }
def k27 : Class := { plain v14 (some 0) with
  accessFlags := 49
  interfaces := #[]
  cf := some (fileOf pool27 14 #[.nestMembers #[975, 375, 113, 74]] #[{ accessFlags := 2, nameIndex := 5, descriptorIndex := 6, attributes := #[] }, { accessFlags := 9, nameIndex := 840, descriptorIndex := 845, attributes := #[] }, { accessFlags := 9, nameIndex := 302, descriptorIndex := 860, attributes := #[] }, { accessFlags := 9, nameIndex := 302, descriptorIndex := 303, attributes := #[] }] 49 2 #[] #[{ accessFlags := 26, nameIndex := 715, descriptorIndex := 716, attributes := #[] }, { accessFlags := 26, nameIndex := 719, descriptorIndex := 716, attributes := #[] }, { accessFlags := 4120, nameIndex := 445, descriptorIndex := 117, attributes := #[] }])
  fields := #[{ name := "MIN_ARRAY_SORT_GRAN", type := .int, accessFlags := 26, slot := 0, constantValue := 0 }, { name := "INSERTIONSORT_THRESHOLD", type := .int, accessFlags := 26, slot := 1, constantValue := 0 }, { name := "$assertionsDisabled", type := .boolean, accessFlags := 4120, slot := 2, constantValue := 0 }]
  methods := #[k27m0, k27m1, k27m2, k27m3]
  instanceTypes := #[]
  staticTypes := #[.int, .int, .boolean]
  resolved := Array.replicate 1029 none
  statics := none }

def pool28 : Array CpInfo := pool [(2, .class_ 4), (1, u v0), (0, u "<init>"), (0, u "()V"), (1, .class_ 10), (1, u "java/lang/System"), (0, u "allowSecurityManager"), (0, u "I"), (16, u "cons"), (0, u "Ljava/io/Console;"), (77, .class_ 110), (1, u "java/lang/System$CallersHolder"), (43, u "initialErrStream"), (0, u "Ljava/io/PrintStream;"), (19, u "security"), (0, u "Ljava/lang/SecurityManager;"), (31, .class_ 209), (0, u "java/lang/System$1"), (7, u "props"), (0, u "Ljava/util/Properties;"), (2, u "lineSeparator"), (0, u "Ljava/lang/String;"), (96, .class_ 321), (1, u "java/lang/System$LoggerFinder"), (5, .class_ 328), (0, u "java/lang/System$Logger"), (67, u "err"), (2, u "out"), (91, u "notSupportedJnuEncoding"), (15, u "in"), (17, u "initialIn"), (0, u "Ljava/io/InputStream;"), (35, u "bootLayer"), (0, u "Ljava/lang/ModuleLayer;"), (99, .class_ 664), (0, u "java/lang/System$2"), (9, u "NEVER"), (2, u "MAYBE"), (49, u "arraycopy"), (0, u v52), (72, .class_ 802), (0, u "java/lang/System$Logger$Level")] 31

def k28m0 : Method := { name := "<init>", desc := "()V", sig := { parameters := [], returnType := none }, accessFlags := 2, code := none }
def k28m1 : Method := { name := "arraycopy", desc := v52, sig := { parameters := [(.object v0), .int, (.object v0), .int, .int], returnType := none }, accessFlags := 265, code := none }
def k28 : Class := { plain "java/lang/System" (some 0) with
  accessFlags := 49
  interfaces := #[]
  cf := some (fileOf pool28 8 #[.nestMembers #[319, 327, 801, 108, 663, 208]] #[{ accessFlags := 2, nameIndex := 5, descriptorIndex := 6, attributes := #[] }, { accessFlags := 265, nameIndex := 727, descriptorIndex := 728, attributes := #[] }] 49 2 #[] #[{ accessFlags := 25, nameIndex := 507, descriptorIndex := 526, attributes := #[] }, { accessFlags := 25, nameIndex := 399, descriptorIndex := 155, attributes := #[] }, { accessFlags := 25, nameIndex := 396, descriptorIndex := 155, attributes := #[] }, { accessFlags := 10, nameIndex := 525, descriptorIndex := 526, attributes := #[] }, { accessFlags := 26, nameIndex := 674, descriptorIndex := 12, attributes := #[] }, { accessFlags := 26, nameIndex := 677, descriptorIndex := 12, attributes := #[] }, { accessFlags := 10, nameIndex := 11, descriptorIndex := 12, attributes := #[] }, { accessFlags := 74, nameIndex := 175, descriptorIndex := 176, attributes := #[] }, { accessFlags := 10, nameIndex := 491, descriptorIndex := 222, attributes := #[] }, { accessFlags := 74, nameIndex := 29, descriptorIndex := 30, attributes := #[] }, { accessFlags := 74, nameIndex := 154, descriptorIndex := 155, attributes := #[] }, { accessFlags := 10, nameIndex := 217, descriptorIndex := 218, attributes := #[] }, { accessFlags := 10, nameIndex := 221, descriptorIndex := 222, attributes := #[] }, { accessFlags := 8, nameIndex := 562, descriptorIndex := 563, attributes := #[] }])
  fields := #[{ name := "in", type := (.object "java/io/InputStream"), accessFlags := 25, slot := 0, constantValue := 0 }, { name := "out", type := (.object v27), accessFlags := 25, slot := 1, constantValue := 0 }, { name := "err", type := (.object v27), accessFlags := 25, slot := 2, constantValue := 0 }, { name := "initialIn", type := (.object "java/io/InputStream"), accessFlags := 10, slot := 3, constantValue := 0 }, { name := "NEVER", type := .int, accessFlags := 26, slot := 4, constantValue := 0 }, { name := "MAYBE", type := .int, accessFlags := 26, slot := 5, constantValue := 0 }, { name := "allowSecurityManager", type := .int, accessFlags := 10, slot := 6, constantValue := 0 }, { name := "security", type := (.object "java/lang/SecurityManager"), accessFlags := 74, slot := 7, constantValue := 0 }, { name := "notSupportedJnuEncoding", type := (.object v4), accessFlags := 10, slot := 8, constantValue := 0 }, { name := "cons", type := (.object "java/io/Console"), accessFlags := 74, slot := 9, constantValue := 0 }, { name := "initialErrStream", type := (.object v27), accessFlags := 74, slot := 10, constantValue := 0 }, { name := "props", type := (.object "java/util/Properties"), accessFlags := 10, slot := 11, constantValue := 0 }, { name := "lineSeparator", type := (.object v4), accessFlags := 10, slot := 12, constantValue := 0 }, { name := "bootLayer", type := (.object "java/lang/ModuleLayer"), accessFlags := 8, slot := 13, constantValue := 0 }]
  methods := #[k28m0, k28m1]
  instanceTypes := #[]
  staticTypes := #[(.object "java/io/InputStream"), (.object v27), (.object v27), (.object "java/io/InputStream"), .int, .int, .int, (.object "java/lang/SecurityManager"), (.object v4), (.object "java/io/Console"), (.object v27), (.object "java/util/Properties"), (.object v4), (.object "java/lang/ModuleLayer")]
  resolved := Array.replicate 834 none
  statics := none }

def pool29 : Array CpInfo := pool [(2, .class_ 4), (1, u v0), (0, u "<init>"), (0, u "()V"), (35, .class_ 44), (1, u v15), (0, u "requireNonNull"), (0, u v25), (58, .methodref 106 107), (0, .class_ 108), (0, .nameAndType 109 110), (0, u v41), (0, u "checkIndex"), (0, u v42), (60, u "(II)I")] 12

def k29m0 : Method := { name := "<init>", desc := "()V", sig := { parameters := [], returnType := none }, accessFlags := 2, code := none }
def k29c1 : Code := { maxStack := 2, maxLocals := 1, code := jdk_31_method_10_code, exceptionTable := #[], attributes := #[] }
def k29m1 : Method := { name := "requireNonNull", desc := v25, sig := { parameters := [(.object v0)], returnType := some (.object v0) }, accessFlags := 9, code := some k29c1 }
def k29c2 : Code := { maxStack := 3, maxLocals := 2, code := jdk_31_method_17_code, exceptionTable := #[], attributes := #[] }
def k29m2 : Method := { name := "checkIndex", desc := "(II)I", sig := { parameters := [.int, .int], returnType := some .int }, accessFlags := 9, code := some k29c2 }
def k29 : Class := { plain v15 (some 0) with
  accessFlags := 49
  interfaces := #[]
  cf := some (fileOf pool29 42 #[] #[{ accessFlags := 2, nameIndex := 5, descriptorIndex := 6, attributes := #[] }, { accessFlags := 9, nameIndex := 45, descriptorIndex := 46, attributes := #[] }, { accessFlags := 9, nameIndex := 109, descriptorIndex := 171, attributes := #[] }] 49 2 #[] #[])
  fields := #[]
  methods := #[k29m0, k29m1, k29m2]
  instanceTypes := #[]
  staticTypes := #[]
  resolved := Array.replicate 184 none
  statics := none }

def pool30 : Array CpInfo := pool [(2, .class_ 4), (1, u v0), (0, u "<init>"), (0, u "()V"), (1, .class_ 10), (1, u v7), (0, u "isPresent"), (0, u "Z"), (6, u "value"), (0, u "D"), (0, .fieldref 8 22), (0, .nameAndType 23 24), (0, u "EMPTY"), (0, u "Ljava/util/OptionalDouble;"), (28, u "empty"), (48, u v39)] 41

def k30m0 : Method := { name := "<init>", desc := "()V", sig := { parameters := [], returnType := none }, accessFlags := 2, code := none }
def k30c1 : Code := { maxStack := 1, maxLocals := 0, code := jdk_2648_method_2_code, exceptionTable := #[], attributes := #[] }
def k30m1 : Method := { name := "empty", desc := v39, sig := { parameters := [], returnType := some (.object v7) }, accessFlags := 9, code := some k30c1 }
def k30 : Class := { plain v7 (some 0) with
  accessFlags := 49
  interfaces := #[]
  cf := some (fileOf pool30 8 #[] #[{ accessFlags := 2, nameIndex := 5, descriptorIndex := 6, attributes := #[] }, { accessFlags := 9, nameIndex := 53, descriptorIndex := 102, attributes := #[] }] 49 2 #[] #[{ accessFlags := 26, nameIndex := 23, descriptorIndex := 24, attributes := #[] }, { accessFlags := 18, nameIndex := 11, descriptorIndex := 12, attributes := #[] }, { accessFlags := 18, nameIndex := 19, descriptorIndex := 20, attributes := #[] }])
  fields := #[{ name := "EMPTY", type := (.object v7), accessFlags := 26, slot := 0, constantValue := 0 }, { name := "isPresent", type := .boolean, accessFlags := 18, slot := 0, constantValue := 0 }, { name := "value", type := .double, accessFlags := 18, slot := 1, constantValue := 0 }]
  methods := #[k30m0, k30m1]
  instanceTypes := #[.boolean, .double]
  staticTypes := #[(.object v7)]
  resolved := Array.replicate 144 none
  statics := some 2 }

def pool31 : Array CpInfo := pool [(2, .class_ 4), (1, u v0), (0, u "<init>"), (0, u "()V"), (17, .class_ 26), (1, u v41), (6, u "checkIndex"), (21, .class_ 56), (0, u "jdk/internal/util/Preconditions$4"), (57, .class_ 115), (0, u "jdk/internal/util/Preconditions$1"), (7, u "SIOOBE_FORMATTER"), (0, u "Ljava/util/function/BiFunction;"), (0, .class_ 126), (0, u "jdk/internal/util/Preconditions$2"), (3, u "AIOOBE_FORMATTER"), (0, .class_ 132), (0, u "jdk/internal/util/Preconditions$3"), (3, u "IOOBE_FORMATTER"), (41, u v42)] 15

def k31m0 : Method := { name := "<init>", desc := "()V", sig := { parameters := [], returnType := none }, accessFlags := 1, code := none }
def k31c1 : Code := { maxStack := 3, maxLocals := 3, code := jdk_41_method_11_code, exceptionTable := #[], attributes := #[] }
def k31m1 : Method := { name := "checkIndex", desc := v42, sig := { parameters := [.int, .int, (.object v22)], returnType := some .int }, accessFlags := 9, code := some k31c1 }
def k31 : Class := { plain v41 (some 0) with
  accessFlags := 33
  interfaces := #[]
  cf := some (fileOf pool31 24 #[.nestMembers #[55, 131, 125, 114]] #[{ accessFlags := 1, nameIndex := 5, descriptorIndex := 6, attributes := #[] }, { accessFlags := 9, nameIndex := 33, descriptorIndex := 178, attributes := #[] }] 33 2 #[] #[{ accessFlags := 25, nameIndex := 123, descriptorIndex := 124, attributes := #[] }, { accessFlags := 25, nameIndex := 130, descriptorIndex := 124, attributes := #[] }, { accessFlags := 25, nameIndex := 136, descriptorIndex := 124, attributes := #[] }])
  fields := #[{ name := "SIOOBE_FORMATTER", type := (.object v22), accessFlags := 25, slot := 0, constantValue := 0 }, { name := "AIOOBE_FORMATTER", type := (.object v22), accessFlags := 25, slot := 1, constantValue := 0 }, { name := "IOOBE_FORMATTER", type := (.object v22), accessFlags := 25, slot := 2, constantValue := 0 }]
  methods := #[k31m0, k31m1]
  instanceTypes := #[]
  staticTypes := #[(.object v22), (.object v22), (.object v22)]
  resolved := Array.replicate 194 none
  statics := none }

def pool32 : Array CpInfo := pool [(1, .methodref 2 3), (0, .class_ 4), (0, .nameAndType 5 6), (0, u v0), (0, u "<init>"), (0, u "()V"), (0, .interfaceMethodref 8 9), (0, .class_ 10), (0, .nameAndType 11 12), (0, u v1), (0, u "size"), (0, u "()I"), (9, .fieldref 23 24), (0, .class_ 25), (0, .nameAndType 26 27), (0, u v16), (0, u "id"), (0, u "Ljava/lang/String;"), (0, .interfaceMethodref 8 29), (0, .nameAndType 30 31), (0, u "copyOf"), (0, u v12), (0, .fieldref 23 33), (0, .nameAndType 34 35), (0, u "plans"), (0, u "Ljava/util/List;"), (0, .fieldref 23 37), (0, .nameAndType 38 39), (0, u "selected"), (0, u "I"), (0, .interfaceMethodref 8 41), (0, .nameAndType 42 43), (0, u "get"), (0, u v3), (0, .class_ 45), (0, u v6), (2, u v32), (11, u "selectedPlan"), (0, u v43)] 19

def k32c0 : Code := { maxStack := 4, maxLocals := 4, code := prog_45_method_1_code, exceptionTable := #[], attributes := #[] }
def k32m0 : Method := { name := "<init>", desc := v32, sig := { parameters := [(.object v4), (.object v1), .int], returnType := none }, accessFlags := 1, code := some k32c0 }
def k32c1 : Code := { maxStack := 2, maxLocals := 1, code := prog_45_method_5_code, exceptionTable := #[], attributes := #[] }
def k32m1 : Method := { name := "selectedPlan", desc := v43, sig := { parameters := [], returnType := some (.object v6) }, accessFlags := 1, code := some k32c1 }
def k32 : Class := { plain v16 (some 0) with
  accessFlags := 49
  interfaces := #[]
  cf := some (fileOf pool32 23 #[] #[{ accessFlags := 1, nameIndex := 5, descriptorIndex := 48, attributes := #[] }, { accessFlags := 1, nameIndex := 60, descriptorIndex := 61, attributes := #[] }] 49 2 #[] #[{ accessFlags := 18, nameIndex := 26, descriptorIndex := 27, attributes := #[] }, { accessFlags := 18, nameIndex := 34, descriptorIndex := 35, attributes := #[] }, { accessFlags := 18, nameIndex := 38, descriptorIndex := 39, attributes := #[] }])
  fields := #[{ name := "id", type := (.object v4), accessFlags := 18, slot := 0, constantValue := 0 }, { name := "plans", type := (.object v1), accessFlags := 18, slot := 1, constantValue := 0 }, { name := "selected", type := .int, accessFlags := 18, slot := 2, constantValue := 0 }]
  methods := #[k32m0, k32m1]
  instanceTypes := #[(.object v4), (.object v1), .int]
  staticTypes := #[]
  resolved := Array.replicate 81 none
  statics := none }

def pool33 : Array CpInfo := pool [(1, .class_ 2), (0, u v53), (0, .class_ 4), (0, u v0)] 6

def k33 : Class := { plain v53 (some 0) with
  accessFlags := 1537
  interfaces := #[]
  cf := some (fileOf pool33 1 #[] #[] 1537 3 #[] #[])
  fields := #[]
  methods := #[]
  instanceTypes := #[]
  staticTypes := #[]
  resolved := Array.replicate 11 none
  statics := none }

def pool34 : Array CpInfo := pool [(1, .methodref 2 3), (0, .class_ 4), (0, .nameAndType 5 6), (0, u v0), (0, u "<init>"), (0, u "()V"), (0, .fieldref 8 9), (0, .class_ 10), (0, .nameAndType 11 12), (0, u v19), (0, u "persons"), (0, u "Ljava/util/List;"), (0, .interfaceMethodref 14 15), (0, .class_ 16), (0, .nameAndType 17 18), (0, u v1), (0, u "size"), (0, u "()I"), (0, .class_ 20), (0, u "[I"), (0, .fieldref 8 22), (0, .nameAndType 23 24), (0, u "departures"), (0, u "[[I"), (0, .fieldref 8 26), (0, .nameAndType 27 24), (0, u "arrivals"), (0, .fieldref 8 29), (0, .nameAndType 30 20), (0, u "departed"), (0, .interfaceMethodref 14 32), (0, .nameAndType 33 34), (0, u "get"), (0, u v3), (0, .class_ 36), (0, u v16), (0, .methodref 35 38), (0, .nameAndType 39 40), (0, u "selectedPlan"), (0, u v43), (0, .methodref 42 43), (0, .class_ 44), (0, .nameAndType 45 46), (0, u v6), (0, u "legs"), (0, u v13), (0, .methodref 48 49), (0, .class_ 50), (0, .nameAndType 51 52), (0, u v14), (0, u "fill"), (0, u "([II)V"), (15, u "arrivedLegs"), (0, u "J"), (2, u "travelSeconds"), (48, .class_ 122), (0, u v53), (0, u "NONE"), (0, u "I"), (4, u v33), (7, u "personsTravelling")] 27

def k34c0 : Code := { maxStack := 3, maxLocals := 4, code := prog_32_method_1_code, exceptionTable := #[], attributes := #[] }
def k34m0 : Method := { name := "<init>", desc := v33, sig := { parameters := [(.object v1)], returnType := none }, accessFlags := 0, code := some k34c0 }
def k34c1 : Code := { maxStack := 2, maxLocals := 6, code := prog_32_method_6_code, exceptionTable := #[], attributes := #[] }
def k34m1 : Method := { name := "personsTravelling", desc := "()I", sig := { parameters := [], returnType := some .int }, accessFlags := 0, code := some k34c1 }
def k34 : Class := { plain v19 (some 0) with
  accessFlags := 48
  interfaces := #[33]
  cf := some (fileOf pool34 8 #[] #[{ accessFlags := 0, nameIndex := 5, descriptorIndex := 129, attributes := #[] }, { accessFlags := 0, nameIndex := 137, descriptorIndex := 18, attributes := #[] }] 48 2 #[121] #[{ accessFlags := 24, nameIndex := 123, descriptorIndex := 124, attributes := #[] }, { accessFlags := 18, nameIndex := 11, descriptorIndex := 12, attributes := #[] }, { accessFlags := 18, nameIndex := 23, descriptorIndex := 24, attributes := #[] }, { accessFlags := 18, nameIndex := 27, descriptorIndex := 24, attributes := #[] }, { accessFlags := 18, nameIndex := 30, descriptorIndex := 20, attributes := #[] }, { accessFlags := 2, nameIndex := 68, descriptorIndex := 69, attributes := #[] }, { accessFlags := 2, nameIndex := 72, descriptorIndex := 69, attributes := #[] }])
  fields := #[{ name := "NONE", type := .int, accessFlags := 24, slot := 0, constantValue := 0 }, { name := "persons", type := (.object v1), accessFlags := 18, slot := 0, constantValue := 0 }, { name := "departures", type := (.array (.array .int)), accessFlags := 18, slot := 1, constantValue := 0 }, { name := "arrivals", type := (.array (.array .int)), accessFlags := 18, slot := 2, constantValue := 0 }, { name := "departed", type := (.array .int), accessFlags := 18, slot := 3, constantValue := 0 }, { name := "arrivedLegs", type := .long, accessFlags := 2, slot := 4, constantValue := 0 }, { name := "travelSeconds", type := .long, accessFlags := 2, slot := 5, constantValue := 0 }]
  methods := #[k34m0, k34m1]
  instanceTypes := #[(.object v1), (.array (.array .int)), (.array (.array .int)), (.array .int), .long, .long]
  staticTypes := #[.int]
  resolved := Array.replicate 165 none
  statics := none }

def pool35 : Array CpInfo := pool [(1, u "java/lang/Class"), (0, .class_ 1), (0, u v0), (0, .class_ 3)] 3

def k35 : Class := { plain "java/lang/Class" (some 0) with
  accessFlags := 49
  interfaces := #[]
  cf := some (fileOf pool35 2 #[] #[] 49 4 #[] #[])
  fields := #[]
  methods := #[]
  instanceTypes := #[]
  staticTypes := #[]
  resolved := Array.replicate 8 none
  statics := none }

def k36 : Class := { plain "byte" none with kind := .primitive 'B', accessFlags := 0x411 }
def k37 : Class := { plain "[B" (some 0) with kind := .array 36 .byte, interfaces := #[18, 4], accessFlags := 1041 }

def k38 : Class := { plain "int" none with kind := .primitive 'I', accessFlags := 0x411 }
def k39 : Class := { plain "[I" (some 0) with kind := .array 38 .int, interfaces := #[18, 4], accessFlags := 1041 }

def k40 : Class := { plain v37 (some 0) with kind := .array 0 (.object v0), interfaces := #[18, 4], accessFlags := 1041, mirror := some 3 }

def k41 : Class := { plain "[[I" (some 0) with kind := .array 39 (.array .int), interfaces := #[18, 4], accessFlags := 1041 }

def heap : Heap := #[{ cls := 19, slots := #[.long 0, .int 0, .ref 4, .ref 4], vm := .statics 19 },
  { cls := 22, slots := #[.long 0, .int 0, .null, .ref 5, .ref 6, .null, .null, .null, .int 0, .int 1], vm := .statics 22 },
  { cls := 30, slots := #[.ref 7], vm := .statics 30 },
  { cls := 35, slots := #[], vm := .mirror 40 },
  { cls := 40, slots := #[], vm := .none },
  { cls := 0, slots := #[], vm := .none },
  { cls := 26, slots := #[.ref 4, .int 0], vm := .none },
  { cls := 30, slots := #[.int 0, .double 0], vm := .none }]
def classes : Array Class := #[k0, k1, k2, k3, k4, k5, k6, k7, k8, k9, k10, k11, k12, k13, k14, k15, k16, k17, k18, k19, k20, k21, k22, k23, k24, k25, k26, k27, k28, k29, k30, k31, k32, k33, k34, k35, k36, k37, k38, k39, k40, k41]
def interned : List (Array UInt16 × Addr) := []
def slotsUsed : Nat := 19
def theMethod : MethodId := ⟨1, 1⟩
def args0 : Array Value := #[.int 5, .int 5, .int 5, .int 5]
def aboutOver (below : List Frame) : State where
  vm := { classes := classes, interned := interned.toArray }
  heap := heap
  slotsUsed := slotsUsed
  threads := #[{ frames := .invoking theMethod args0 :: below }]
def below0 : List Frame := [.native { method := ⟨0, 0⟩, args := #[] }]
def about1 : State := aboutOver below0
def p0 : Program := .bare "" "" ""
def e0 : Env := launch0.env 0 0 0
theorem w_frames : about1.frames = Frame.invoking theMethod args0 :: below0 := rfl
set_option maxRecDepth 65536 in
theorem w_args : argsFit about1.vm theMethod args0 = true := by decide +kernel
set_option maxRecDepth 65536 in
theorem w_heap : heapFits about1 = true := by decide +kernel
set_option maxRecDepth 65536 in
theorem w_runnable : about1.curStatus? = some .runnable := by decide +kernel
set_option maxRecDepth 65536 in
theorem w_alone : about1.alone = true := by decide +kernel
set_option maxRecDepth 65536 in
theorem w_named : about1.methodNamed? x = some theMethod := by decide +kernel
set_option maxRecDepth 65536 in
theorem w_hears : about1.hears theMethod below0 = true := by decide +kernel
set_option maxRecDepth 65536 in
theorem w_ripe : about1.ripe theMethod args0 below0 = true := by decide +kernel
theorem w_running : about1.status = .running := rfl
set_option maxRecDepth 65536 in
theorem w_room : about1.hasRoom e0.platform room_1 = true :=
  launch0.hasRoom_least _ room_1 (by decide +kernel) (by decide +kernel) (by decide +kernel) (by decide +kernel) (by decide +kernel) (by decide +kernel)
theorem allAtoms_all (ts : List Jvm.Cond) (a : Array Jvm.Value) (st : Jvm.State) : (allAtoms ts).before a st = ts.all (fun c => c.before a st) := by
  induction ts with
  | nil => rfl
  | cons c t ih =>
    show (Cond.and c (allAtoms t)).before a st = _
    rw [Cond.before_and, ih, List.all_cons]
def words1 : List Jvm.Cond := Cond.code x code maxLocals ret :: tables_1
theorem code_word {y : MethodName} {bytes : ByteArray} {mx : Nat} {rt : Option FieldType} {a : Array Value} {s : State} {m : MethodId} {meth : Method} {c : Code} (h1 : s.methodNamed? y = some m) (h2 : s.vm.method? m = some meth) (h3 : meth.code = some c) (h4 : c.code = bytes)
    (h5 : (c.maxLocals == mx && c.exceptionTable.isEmpty && decide (c.maxStack ≤ mostOperands) && decide (meth.sig.returnType = rt) && !meth.locks && decide (parseMethodDescriptor y.desc = some meth.sig)) = true) : (Cond.code y bytes mx rt).before a s = true := by
  simp only [Bool.and_eq_true, beq_iff_eq, Bool.not_eq_true', decide_eq_true_eq] at h5
  obtain ⟨⟨⟨⟨⟨g1, g2⟩, g3⟩, g4⟩, g5⟩, g6⟩ := h5
  simp [Cond.before, Cond.holds, Cond.value, h1, h2, h3, h4, g1, g2, g3, g4, g5, g6]
def isCode : Jvm.Cond → Bool
  | .code _ _ _ _ => true
  | _ => false
theorem all_split {L : List Jvm.Cond} {P : Jvm.Cond → Bool} (h1 : L.all (fun c => isCode c || P c) = true) (h2 : ∀ c ∈ L.filter isCode, P c = true) : L.all P = true := by
  refine List.all_eq_true.mpr fun c hc => ?_
  have h := List.all_eq_true.mp h1 c hc
  rcases Bool.eq_false_or_eq_true (isCode c) with hi | hi
  · exact h2 c (List.mem_filter.mpr ⟨hc, hi⟩)
  · simpa [hi] using h
set_option maxRecDepth 65536 in
theorem w_c0 : (Cond.code x code maxLocals ret).before args0 about1 = true := code_word (m := ⟨1, 1⟩) (meth := k1m1) (c := k1c1) (by decide +kernel) rfl rfl rfl (by decide +kernel)
set_option maxRecDepth 65536 in
theorem w_c1 : (Cond.code ({ cls := v9, name := "<init>", desc := v28 } : MethodName) prog_1_method_1_code (5 : Nat) (Option.none : Option Jvm.ClassFile.FieldType)).before args0 about1 = true := code_word (m := ⟨3, 0⟩) (meth := k3m0) (c := k3c0) (by decide +kernel) rfl rfl rfl (by decide +kernel)
set_option maxRecDepth 65536 in
theorem w_c2 : (Cond.code ({ cls := v9, name := "<init>", desc := v44 } : MethodName) prog_1_method_2_code (6 : Nat) (Option.none : Option Jvm.ClassFile.FieldType)).before args0 about1 = true := code_word (m := ⟨3, 1⟩) (meth := k3m1) (c := k3c1) (by decide +kernel) rfl rfl rfl (by decide +kernel)
set_option maxRecDepth 65536 in
theorem w_c3 : (Cond.code ({ cls := "java/lang/Record", name := "<init>", desc := "()V" } : MethodName) jdk_30_method_1_code (1 : Nat) (Option.none : Option Jvm.ClassFile.FieldType)).before args0 about1 = true := code_word (m := ⟨2, 0⟩) (meth := k2m0) (c := k2c0) (by decide +kernel) rfl rfl rfl (by decide +kernel)
set_option maxRecDepth 65536 in
theorem w_c4 : (Cond.code ({ cls := v0, name := "<init>", desc := "()V" } : MethodName) object_method_1_code (1 : Nat) (Option.none : Option Jvm.ClassFile.FieldType)).before args0 about1 = true := code_word (m := ⟨0, 0⟩) (meth := k0m0) (c := k0c0) (by decide +kernel) rfl rfl rfl (by decide +kernel)
set_option maxRecDepth 65536 in
theorem w_c5 : (Cond.code ({ cls := v29, name := "<init>", desc := "([I)V" } : MethodName) prog_31_method_1_code (2 : Nat) (Option.none : Option Jvm.ClassFile.FieldType)).before args0 about1 = true := code_word (m := ⟨10, 0⟩) (meth := k10m0) (c := k10c0) (by decide +kernel) rfl rfl rfl (by decide +kernel)
set_option maxRecDepth 65536 in
theorem w_c6 : (Cond.code ({ cls := v2, name := "<init>", desc := "()V" } : MethodName) jdk_38_method_2_code (1 : Nat) (Option.none : Option Jvm.ClassFile.FieldType)).before args0 about1 = true := code_word (m := ⟨19, 0⟩) (meth := k19m0) (c := k19c0) (by decide +kernel) rfl rfl rfl (by decide +kernel)
set_option maxRecDepth 65536 in
theorem w_c7 : (Cond.code ({ cls := v36, name := "<init>", desc := "()V" } : MethodName) jdk_39_method_1_code (1 : Nat) (Option.none : Option Jvm.ClassFile.FieldType)).before args0 about1 = true := code_word (m := ⟨16, 0⟩) (meth := k16m0) (c := k16c0) (by decide +kernel) rfl rfl rfl (by decide +kernel)
set_option maxRecDepth 65536 in
theorem w_c8 : (Cond.code ({ cls := v24, name := "<init>", desc := "()V" } : MethodName) jdk_22_method_1_code (1 : Nat) (Option.none : Option Jvm.ClassFile.FieldType)).before args0 about1 = true := code_word (m := ⟨13, 0⟩) (meth := k13m0) (c := k13c0) (by decide +kernel) rfl rfl rfl (by decide +kernel)
set_option maxRecDepth 65536 in
theorem w_c9 : (Cond.code ({ cls := v2, name := "add", desc := v30 } : MethodName) jdk_38_method_25_code (2 : Nat) (Option.some FieldType.boolean)).before args0 about1 = true := code_word (m := ⟨19, 9⟩) (meth := k19m9) (c := k19c9) (by decide +kernel) rfl rfl rfl (by decide +kernel)
set_option maxRecDepth 65536 in
theorem w_c10 : (Cond.code ({ cls := v2, name := "add", desc := v45 } : MethodName) jdk_38_method_24_code (4 : Nat) (Option.none : Option Jvm.ClassFile.FieldType)).before args0 about1 = true := code_word (m := ⟨19, 8⟩) (meth := k19m8) (c := k19c8) (by decide +kernel) rfl rfl rfl (by decide +kernel)
set_option maxRecDepth 65536 in
theorem w_c11 : (Cond.code ({ cls := v2, name := "grow", desc := v10 } : MethodName) jdk_38_method_7_code (1 : Nat) (Option.some (FieldType.array (FieldType.object v0)))).before args0 about1 = true := code_word (m := ⟨19, 2⟩) (meth := k19m2) (c := k19c2) (by decide +kernel) rfl rfl rfl (by decide +kernel)
set_option maxRecDepth 65536 in
theorem w_c12 : (Cond.code ({ cls := v2, name := "grow", desc := "(I)[Ljava/lang/Object;" } : MethodName) jdk_38_method_6_code (4 : Nat) (Option.some (FieldType.array (FieldType.object v0)))).before args0 about1 = true := code_word (m := ⟨19, 1⟩) (meth := k19m1) (c := k19c1) (by decide +kernel) rfl rfl rfl (by decide +kernel)
set_option maxRecDepth 65536 in
theorem w_c13 : (Cond.code ({ cls := v18, name := "max", desc := "(II)I" } : MethodName) jdk_29_method_65_code (2 : Nat) (Option.some FieldType.int)).before args0 about1 = true := code_word (m := ⟨20, 1⟩) (meth := k20m1) (c := k20c1) (by decide +kernel) rfl rfl rfl (by decide +kernel)
set_option maxRecDepth 65536 in
theorem w_c14 : (Cond.code ({ cls := v6, name := "<init>", desc := v31 } : MethodName) prog_46_method_1_code (5 : Nat) (Option.none : Option Jvm.ClassFile.FieldType)).before args0 about1 = true := code_word (m := ⟨21, 0⟩) (meth := k21m0) (c := k21c0) (by decide +kernel) rfl rfl rfl (by decide +kernel)
set_option maxRecDepth 65536 in
theorem w_c15 : (Cond.code ({ cls := v2, name := "isEmpty", desc := "()Z" } : MethodName) jdk_38_method_9_code (1 : Nat) (Option.some FieldType.boolean)).before args0 about1 = true := code_word (m := ⟨19, 4⟩) (meth := k19m4) (c := k19c4) (by decide +kernel) rfl rfl rfl (by decide +kernel)
set_option maxRecDepth 65536 in
theorem w_c16 : (Cond.code ({ cls := v2, name := "size", desc := "()I" } : MethodName) jdk_38_method_8_code (1 : Nat) (Option.some FieldType.int)).before args0 about1 = true := code_word (m := ⟨19, 3⟩) (meth := k19m3) (c := k19c3) (by decide +kernel) rfl rfl rfl (by decide +kernel)
set_option maxRecDepth 65536 in
theorem w_c17 : (Cond.code ({ cls := v1, name := "copyOf", desc := v12 } : MethodName) jdk_40_method_48_code (1 : Nat) (Option.some (FieldType.object v1))).before args0 about1 = true := code_word (m := ⟨15, 5⟩) (meth := k15m5) (c := k15c5) (by decide +kernel) rfl rfl rfl (by decide +kernel)
set_option maxRecDepth 65536 in
theorem w_c18 : (Cond.code ({ cls := v8, name := "listCopy", desc := v12 } : MethodName) jdk_56_method_3_code (2 : Nat) (Option.some (FieldType.object v1))).before args0 about1 = true := code_word (m := ⟨22, 1⟩) (meth := k22m1) (c := k22c1) (by decide +kernel) rfl rfl rfl (by decide +kernel)
set_option maxRecDepth 65536 in
theorem w_c19 : (Cond.code ({ cls := v2, name := "toArray", desc := v10 } : MethodName) jdk_38_method_16_code (1 : Nat) (Option.some (FieldType.array (FieldType.object v0)))).before args0 about1 = true := code_word (m := ⟨19, 5⟩) (meth := k19m5) (c := k19c5) (by decide +kernel) rfl rfl rfl (by decide +kernel)
set_option maxRecDepth 65536 in
theorem w_c20 : (Cond.code ({ cls := v14, name := "copyOf", desc := v38 } : MethodName) jdk_65_method_119_code (2 : Nat) (Option.some (FieldType.array (FieldType.object v0)))).before args0 about1 = true := code_word (m := ⟨27, 2⟩) (meth := k27m2) (c := k27c2) (by decide +kernel) rfl rfl rfl (by decide +kernel)
set_option maxRecDepth 65536 in
theorem w_c21 : (Cond.code ({ cls := v14, name := "copyOf", desc := v46 } : MethodName) jdk_65_method_120_code (4 : Nat) (Option.some (FieldType.array (FieldType.object v0)))).before args0 about1 = true := code_word (m := ⟨27, 3⟩) (meth := k27m3) (c := k27c3) (by decide +kernel) rfl rfl rfl (by decide +kernel)
set_option maxRecDepth 65536 in
theorem w_c22 : (Cond.code ({ cls := v18, name := "min", desc := "(II)I" } : MethodName) jdk_29_method_69_code (2 : Nat) (Option.some FieldType.int)).before args0 about1 = true := code_word (m := ⟨20, 2⟩) (meth := k20m2) (c := k20c2) (by decide +kernel) rfl rfl rfl (by decide +kernel)
set_option maxRecDepth 65536 in
theorem w_c23 : (Cond.code ({ cls := v1, name := "of", desc := v17 } : MethodName) jdk_40_method_47_code (2 : Nat) (Option.some (FieldType.object v1))).before args0 about1 = true := code_word (m := ⟨15, 4⟩) (meth := k15m4) (c := k15c4) (by decide +kernel) rfl rfl rfl (by decide +kernel)
set_option maxRecDepth 65536 in
theorem w_c24 : (Cond.code ({ cls := v11, name := "<init>", desc := v34 } : MethodName) jdk_44_method_1_code (2 : Nat) (Option.none : Option Jvm.ClassFile.FieldType)).before args0 about1 = true := code_word (m := ⟨25, 0⟩) (meth := k25m0) (c := k25c0) (by decide +kernel) rfl rfl rfl (by decide +kernel)
set_option maxRecDepth 65536 in
theorem w_c25 : (Cond.code ({ cls := v21, name := "<init>", desc := "()V" } : MethodName) jdk_46_method_1_code (1 : Nat) (Option.none : Option Jvm.ClassFile.FieldType)).before args0 about1 = true := code_word (m := ⟨24, 0⟩) (meth := k24m0) (c := k24c0) (by decide +kernel) rfl rfl rfl (by decide +kernel)
set_option maxRecDepth 65536 in
theorem w_c26 : (Cond.code ({ cls := v26, name := "<init>", desc := "()V" } : MethodName) jdk_47_method_1_code (1 : Nat) (Option.none : Option Jvm.ClassFile.FieldType)).before args0 about1 = true := code_word (m := ⟨23, 0⟩) (meth := k23m0) (c := k23c0) (by decide +kernel) rfl rfl rfl (by decide +kernel)
set_option maxRecDepth 65536 in
theorem w_c27 : (Cond.code ({ cls := v15, name := "requireNonNull", desc := v25 } : MethodName) jdk_31_method_10_code (1 : Nat) (Option.some (FieldType.object v0))).before args0 about1 = true := code_word (m := ⟨29, 1⟩) (meth := k29m1) (c := k29c1) (by decide +kernel) rfl rfl rfl (by decide +kernel)
set_option maxRecDepth 65536 in
theorem w_c28 : (Cond.code ({ cls := v1, name := "of", desc := v13 } : MethodName) jdk_40_method_36_code (0 : Nat) (Option.some (FieldType.object v1))).before args0 about1 = true := code_word (m := ⟨15, 3⟩) (meth := k15m3) (c := k15c3) (by decide +kernel) rfl rfl rfl (by decide +kernel)
set_option maxRecDepth 65536 in
theorem w_c29 : (Cond.code ({ cls := v7, name := "empty", desc := v39 } : MethodName) jdk_2648_method_2_code (0 : Nat) (Option.some (FieldType.object v7))).before args0 about1 = true := code_word (m := ⟨30, 1⟩) (meth := k30m1) (c := k30c1) (by decide +kernel) rfl rfl rfl (by decide +kernel)
set_option maxRecDepth 65536 in
theorem w_c30 : (Cond.code ({ cls := v2, name := "get", desc := v3 } : MethodName) jdk_38_method_20_code (2 : Nat) (Option.some (FieldType.object v0))).before args0 about1 = true := code_word (m := ⟨19, 7⟩) (meth := k19m7) (c := k19c7) (by decide +kernel) rfl rfl rfl (by decide +kernel)
set_option maxRecDepth 65536 in
theorem w_c31 : (Cond.code ({ cls := v15, name := "checkIndex", desc := "(II)I" } : MethodName) jdk_31_method_17_code (2 : Nat) (Option.some FieldType.int)).before args0 about1 = true := code_word (m := ⟨29, 2⟩) (meth := k29m2) (c := k29c2) (by decide +kernel) rfl rfl rfl (by decide +kernel)
set_option maxRecDepth 65536 in
theorem w_c32 : (Cond.code ({ cls := v41, name := "checkIndex", desc := v42 } : MethodName) jdk_41_method_11_code (3 : Nat) (Option.some FieldType.int)).before args0 about1 = true := code_word (m := ⟨31, 1⟩) (meth := k31m1) (c := k31c1) (by decide +kernel) rfl rfl rfl (by decide +kernel)
set_option maxRecDepth 65536 in
theorem w_c33 : (Cond.code ({ cls := v2, name := "elementData", desc := v3 } : MethodName) jdk_38_method_18_code (2 : Nat) (Option.some (FieldType.object v0))).before args0 about1 = true := code_word (m := ⟨19, 6⟩) (meth := k19m6) (c := k19c6) (by decide +kernel) rfl rfl rfl (by decide +kernel)
set_option maxRecDepth 65536 in
theorem w_c34 : (Cond.code ({ cls := v9, name := "endTime", desc := "()I" } : MethodName) prog_1_method_10_code (1 : Nat) (Option.some FieldType.int)).before args0 about1 = true := code_word (m := ⟨3, 2⟩) (meth := k3m2) (c := k3c2) (by decide +kernel) rfl rfl rfl (by decide +kernel)
set_option maxRecDepth 65536 in
theorem w_c35 : (Cond.code ({ cls := v11, name := "<init>", desc := v35 } : MethodName) jdk_44_method_2_code (3 : Nat) (Option.none : Option Jvm.ClassFile.FieldType)).before args0 about1 = true := code_word (m := ⟨25, 1⟩) (meth := k25m1) (c := k25c1) (by decide +kernel) rfl rfl rfl (by decide +kernel)
set_option maxRecDepth 65536 in
theorem w_c36 : (Cond.code ({ cls := v8, name := "listFromArray", desc := v17 } : MethodName) jdk_56_method_4_code (3 : Nat) (Option.some (FieldType.object v1))).before args0 about1 = true := code_word (m := ⟨22, 2⟩) (meth := k22m2) (c := k22c2) (by decide +kernel) rfl rfl rfl (by decide +kernel)
set_option maxRecDepth 65536 in
theorem w_c37 : (Cond.code ({ cls := v5, name := "<init>", desc := v40 } : MethodName) jdk_45_method_1_code (3 : Nat) (Option.none : Option Jvm.ClassFile.FieldType)).before args0 about1 = true := code_word (m := ⟨26, 0⟩) (meth := k26m0) (c := k26c0) (by decide +kernel) rfl rfl rfl (by decide +kernel)
set_option maxRecDepth 65536 in
theorem w_c38 : (Cond.code ({ cls := v16, name := "<init>", desc := v32 } : MethodName) prog_45_method_1_code (4 : Nat) (Option.none : Option Jvm.ClassFile.FieldType)).before args0 about1 = true := code_word (m := ⟨32, 0⟩) (meth := k32m0) (c := k32c0) (by decide +kernel) rfl rfl rfl (by decide +kernel)
set_option maxRecDepth 65536 in
theorem w_c39 : (Cond.code ({ cls := v19, name := "<init>", desc := v33 } : MethodName) prog_32_method_1_code (4 : Nat) (Option.none : Option Jvm.ClassFile.FieldType)).before args0 about1 = true := code_word (m := ⟨34, 0⟩) (meth := k34m0) (c := k34c0) (by decide +kernel) rfl rfl rfl (by decide +kernel)
set_option maxRecDepth 65536 in
theorem w_c40 : (Cond.code ({ cls := v19, name := "personsTravelling", desc := "()I" } : MethodName) prog_32_method_6_code (6 : Nat) (Option.some FieldType.int)).before args0 about1 = true := code_word (m := ⟨34, 1⟩) (meth := k34m1) (c := k34c1) (by decide +kernel) rfl rfl rfl (by decide +kernel)
set_option maxRecDepth 65536 in
theorem w_c41 : (Cond.code ({ cls := v16, name := "selectedPlan", desc := v43 } : MethodName) prog_45_method_5_code (1 : Nat) (Option.some (FieldType.object v6))).before args0 about1 = true := code_word (m := ⟨32, 1⟩) (meth := k32m1) (c := k32c1) (by decide +kernel) rfl rfl rfl (by decide +kernel)
set_option maxRecDepth 65536 in
theorem w_c42 : (Cond.code ({ cls := v5, name := "get", desc := v3 } : MethodName) jdk_45_method_4_code (2 : Nat) (Option.some (FieldType.object v0))).before args0 about1 = true := code_word (m := ⟨26, 2⟩) (meth := k26m2) (c := k26c2) (by decide +kernel) rfl rfl rfl (by decide +kernel)
set_option maxRecDepth 65536 in
theorem w_c43 : (Cond.code ({ cls := v6, name := "legs", desc := v13 } : MethodName) prog_46_method_4_code (1 : Nat) (Option.some (FieldType.object v1))).before args0 about1 = true := code_word (m := ⟨21, 1⟩) (meth := k21m1) (c := k21c1) (by decide +kernel) rfl rfl rfl (by decide +kernel)
set_option maxRecDepth 65536 in
theorem w_c44 : (Cond.code ({ cls := v11, name := "size", desc := "()I" } : MethodName) jdk_44_method_3_code (1 : Nat) (Option.some FieldType.int)).before args0 about1 = true := code_word (m := ⟨25, 2⟩) (meth := k25m2) (c := k25c2) (by decide +kernel) rfl rfl rfl (by decide +kernel)
set_option maxRecDepth 65536 in
theorem w_c45 : (Cond.code ({ cls := v14, name := "fill", desc := "([II)V" } : MethodName) jdk_65_method_103_code (4 : Nat) (Option.none : Option Jvm.ClassFile.FieldType)).before args0 about1 = true := code_word (m := ⟨27, 1⟩) (meth := k27m1) (c := k27c1) (by decide +kernel) rfl rfl rfl (by decide +kernel)
set_option maxRecDepth 65536 in
theorem w_c46 : (Cond.code ({ cls := v5, name := "size", desc := "()I" } : MethodName) jdk_45_method_3_code (1 : Nat) (Option.some FieldType.int)).before args0 about1 = true := code_word (m := ⟨26, 1⟩) (meth := k26m1) (c := k26c1) (by decide +kernel) rfl rfl rfl (by decide +kernel)
def codes1 : List Jvm.Cond := [Cond.code x code maxLocals ret, Cond.code ({ cls := v9, name := "<init>", desc := v28 } : MethodName) prog_1_method_1_code (5 : Nat) (Option.none : Option Jvm.ClassFile.FieldType), Cond.code ({ cls := v9, name := "<init>", desc := v44 } : MethodName) prog_1_method_2_code (6 : Nat) (Option.none : Option Jvm.ClassFile.FieldType), Cond.code ({ cls := "java/lang/Record", name := "<init>", desc := "()V" } : MethodName) jdk_30_method_1_code (1 : Nat) (Option.none : Option Jvm.ClassFile.FieldType), Cond.code ({ cls := v0, name := "<init>", desc := "()V" } : MethodName) object_method_1_code (1 : Nat) (Option.none : Option Jvm.ClassFile.FieldType), Cond.code ({ cls := v29, name := "<init>", desc := "([I)V" } : MethodName) prog_31_method_1_code (2 : Nat) (Option.none : Option Jvm.ClassFile.FieldType), Cond.code ({ cls := v2, name := "<init>", desc := "()V" } : MethodName) jdk_38_method_2_code (1 : Nat) (Option.none : Option Jvm.ClassFile.FieldType), Cond.code ({ cls := v36, name := "<init>", desc := "()V" } : MethodName) jdk_39_method_1_code (1 : Nat) (Option.none : Option Jvm.ClassFile.FieldType), Cond.code ({ cls := v24, name := "<init>", desc := "()V" } : MethodName) jdk_22_method_1_code (1 : Nat) (Option.none : Option Jvm.ClassFile.FieldType), Cond.code ({ cls := v2, name := "add", desc := v30 } : MethodName) jdk_38_method_25_code (2 : Nat) (Option.some FieldType.boolean), Cond.code ({ cls := v2, name := "add", desc := v45 } : MethodName) jdk_38_method_24_code (4 : Nat) (Option.none : Option Jvm.ClassFile.FieldType), Cond.code ({ cls := v2, name := "grow", desc := v10 } : MethodName) jdk_38_method_7_code (1 : Nat) (Option.some (FieldType.array (FieldType.object v0))), Cond.code ({ cls := v2, name := "grow", desc := "(I)[Ljava/lang/Object;" } : MethodName) jdk_38_method_6_code (4 : Nat) (Option.some (FieldType.array (FieldType.object v0))), Cond.code ({ cls := v18, name := "max", desc := "(II)I" } : MethodName) jdk_29_method_65_code (2 : Nat) (Option.some FieldType.int), Cond.code ({ cls := v6, name := "<init>", desc := v31 } : MethodName) prog_46_method_1_code (5 : Nat) (Option.none : Option Jvm.ClassFile.FieldType), Cond.code ({ cls := v2, name := "isEmpty", desc := "()Z" } : MethodName) jdk_38_method_9_code (1 : Nat) (Option.some FieldType.boolean), Cond.code ({ cls := v2, name := "size", desc := "()I" } : MethodName) jdk_38_method_8_code (1 : Nat) (Option.some FieldType.int), Cond.code ({ cls := v1, name := "copyOf", desc := v12 } : MethodName) jdk_40_method_48_code (1 : Nat) (Option.some (FieldType.object v1)), Cond.code ({ cls := v8, name := "listCopy", desc := v12 } : MethodName) jdk_56_method_3_code (2 : Nat) (Option.some (FieldType.object v1)), Cond.code ({ cls := v2, name := "toArray", desc := v10 } : MethodName) jdk_38_method_16_code (1 : Nat) (Option.some (FieldType.array (FieldType.object v0))), Cond.code ({ cls := v14, name := "copyOf", desc := v38 } : MethodName) jdk_65_method_119_code (2 : Nat) (Option.some (FieldType.array (FieldType.object v0))), Cond.code ({ cls := v14, name := "copyOf", desc := v46 } : MethodName) jdk_65_method_120_code (4 : Nat) (Option.some (FieldType.array (FieldType.object v0))), Cond.code ({ cls := v18, name := "min", desc := "(II)I" } : MethodName) jdk_29_method_69_code (2 : Nat) (Option.some FieldType.int), Cond.code ({ cls := v1, name := "of", desc := v17 } : MethodName) jdk_40_method_47_code (2 : Nat) (Option.some (FieldType.object v1)), Cond.code ({ cls := v11, name := "<init>", desc := v34 } : MethodName) jdk_44_method_1_code (2 : Nat) (Option.none : Option Jvm.ClassFile.FieldType), Cond.code ({ cls := v21, name := "<init>", desc := "()V" } : MethodName) jdk_46_method_1_code (1 : Nat) (Option.none : Option Jvm.ClassFile.FieldType), Cond.code ({ cls := v26, name := "<init>", desc := "()V" } : MethodName) jdk_47_method_1_code (1 : Nat) (Option.none : Option Jvm.ClassFile.FieldType), Cond.code ({ cls := v15, name := "requireNonNull", desc := v25 } : MethodName) jdk_31_method_10_code (1 : Nat) (Option.some (FieldType.object v0)), Cond.code ({ cls := v1, name := "of", desc := v13 } : MethodName) jdk_40_method_36_code (0 : Nat) (Option.some (FieldType.object v1)), Cond.code ({ cls := v7, name := "empty", desc := v39 } : MethodName) jdk_2648_method_2_code (0 : Nat) (Option.some (FieldType.object v7)), Cond.code ({ cls := v2, name := "get", desc := v3 } : MethodName) jdk_38_method_20_code (2 : Nat) (Option.some (FieldType.object v0)), Cond.code ({ cls := v15, name := "checkIndex", desc := "(II)I" } : MethodName) jdk_31_method_17_code (2 : Nat) (Option.some FieldType.int), Cond.code ({ cls := v41, name := "checkIndex", desc := v42 } : MethodName) jdk_41_method_11_code (3 : Nat) (Option.some FieldType.int), Cond.code ({ cls := v2, name := "elementData", desc := v3 } : MethodName) jdk_38_method_18_code (2 : Nat) (Option.some (FieldType.object v0)), Cond.code ({ cls := v9, name := "endTime", desc := "()I" } : MethodName) prog_1_method_10_code (1 : Nat) (Option.some FieldType.int), Cond.code ({ cls := v11, name := "<init>", desc := v35 } : MethodName) jdk_44_method_2_code (3 : Nat) (Option.none : Option Jvm.ClassFile.FieldType), Cond.code ({ cls := v8, name := "listFromArray", desc := v17 } : MethodName) jdk_56_method_4_code (3 : Nat) (Option.some (FieldType.object v1)), Cond.code ({ cls := v5, name := "<init>", desc := v40 } : MethodName) jdk_45_method_1_code (3 : Nat) (Option.none : Option Jvm.ClassFile.FieldType), Cond.code ({ cls := v16, name := "<init>", desc := v32 } : MethodName) prog_45_method_1_code (4 : Nat) (Option.none : Option Jvm.ClassFile.FieldType), Cond.code ({ cls := v19, name := "<init>", desc := v33 } : MethodName) prog_32_method_1_code (4 : Nat) (Option.none : Option Jvm.ClassFile.FieldType), Cond.code ({ cls := v19, name := "personsTravelling", desc := "()I" } : MethodName) prog_32_method_6_code (6 : Nat) (Option.some FieldType.int), Cond.code ({ cls := v16, name := "selectedPlan", desc := v43 } : MethodName) prog_45_method_5_code (1 : Nat) (Option.some (FieldType.object v6)), Cond.code ({ cls := v5, name := "get", desc := v3 } : MethodName) jdk_45_method_4_code (2 : Nat) (Option.some (FieldType.object v0)), Cond.code ({ cls := v6, name := "legs", desc := v13 } : MethodName) prog_46_method_4_code (1 : Nat) (Option.some (FieldType.object v1)), Cond.code ({ cls := v11, name := "size", desc := "()I" } : MethodName) jdk_44_method_3_code (1 : Nat) (Option.some FieldType.int), Cond.code ({ cls := v14, name := "fill", desc := "([II)V" } : MethodName) jdk_65_method_103_code (4 : Nat) (Option.none : Option Jvm.ClassFile.FieldType), Cond.code ({ cls := v5, name := "size", desc := "()I" } : MethodName) jdk_45_method_3_code (1 : Nat) (Option.some FieldType.int)]
set_option maxRecDepth 65536 in
theorem codes_eq : words1.filter isCode = codes1 := rfl
theorem w_codes : ∀ c ∈ words1.filter isCode, c.before args0 about1 = true := by
  rw [codes_eq]
  intro c hc
  simp only [codes1, List.mem_cons, List.not_mem_nil, or_false] at hc
  rcases hc with rfl | rfl | rfl | rfl | rfl | rfl | rfl | rfl | rfl | rfl | rfl | rfl | rfl | rfl | rfl | rfl | rfl | rfl | rfl | rfl | rfl | rfl | rfl | rfl | rfl | rfl | rfl | rfl | rfl | rfl | rfl | rfl | rfl | rfl | rfl | rfl | rfl | rfl | rfl | rfl | rfl | rfl | rfl | rfl | rfl | rfl | rfl
  · exact w_c0
  · exact w_c1
  · exact w_c2
  · exact w_c3
  · exact w_c4
  · exact w_c5
  · exact w_c6
  · exact w_c7
  · exact w_c8
  · exact w_c9
  · exact w_c10
  · exact w_c11
  · exact w_c12
  · exact w_c13
  · exact w_c14
  · exact w_c15
  · exact w_c16
  · exact w_c17
  · exact w_c18
  · exact w_c19
  · exact w_c20
  · exact w_c21
  · exact w_c22
  · exact w_c23
  · exact w_c24
  · exact w_c25
  · exact w_c26
  · exact w_c27
  · exact w_c28
  · exact w_c29
  · exact w_c30
  · exact w_c31
  · exact w_c32
  · exact w_c33
  · exact w_c34
  · exact w_c35
  · exact w_c36
  · exact w_c37
  · exact w_c38
  · exact w_c39
  · exact w_c40
  · exact w_c41
  · exact w_c42
  · exact w_c43
  · exact w_c44
  · exact w_c45
  · exact w_c46
set_option maxRecDepth 65536 in
theorem w_t1 : (words1.take 24).all (fun c => isCode c || c.before args0 about1) = true := by decide +kernel
set_option maxRecDepth 65536 in
theorem w_t2 : ((words1.drop 24).take 24).all (fun c => isCode c || c.before args0 about1) = true := by decide +kernel
set_option maxRecDepth 65536 in
theorem w_t3 : (((words1.drop 24).drop 24).take 24).all (fun c => isCode c || c.before args0 about1) = true := by decide +kernel
set_option maxRecDepth 65536 in
theorem w_t4 : ((((words1.drop 24).drop 24).drop 24).take 24).all (fun c => isCode c || c.before args0 about1) = true := by decide +kernel
set_option maxRecDepth 65536 in
theorem w_t5 : (((((words1.drop 24).drop 24).drop 24).drop 24).take 24).all (fun c => isCode c || c.before args0 about1) = true := by decide +kernel
set_option maxRecDepth 65536 in
theorem w_t6 : ((((((words1.drop 24).drop 24).drop 24).drop 24).drop 24).take 24).all (fun c => isCode c || c.before args0 about1) = true := by decide +kernel
set_option maxRecDepth 65536 in
theorem w_t7 : (((((((words1.drop 24).drop 24).drop 24).drop 24).drop 24).drop 24).take 24).all (fun c => isCode c || c.before args0 about1) = true := by decide +kernel
set_option maxRecDepth 65536 in
theorem w_t8 : ((((((((words1.drop 24).drop 24).drop 24).drop 24).drop 24).drop 24).drop 24).take 24).all (fun c => isCode c || c.before args0 about1) = true := by decide +kernel
set_option maxRecDepth 65536 in
theorem w_t9 : (((((((((words1.drop 24).drop 24).drop 24).drop 24).drop 24).drop 24).drop 24).drop 24).take 24).all (fun c => isCode c || c.before args0 about1) = true := by decide +kernel
set_option maxRecDepth 65536 in
theorem w_t10 : ((((((((((words1.drop 24).drop 24).drop 24).drop 24).drop 24).drop 24).drop 24).drop 24).drop 24).take 24).all (fun c => isCode c || c.before args0 about1) = true := by decide +kernel
set_option maxRecDepth 65536 in
theorem w_t11 : (((((((((((words1.drop 24).drop 24).drop 24).drop 24).drop 24).drop 24).drop 24).drop 24).drop 24).drop 24).take 24).all (fun c => isCode c || c.before args0 about1) = true := by decide +kernel
set_option maxRecDepth 65536 in
theorem w_t12 : ((((((((((((words1.drop 24).drop 24).drop 24).drop 24).drop 24).drop 24).drop 24).drop 24).drop 24).drop 24).drop 24).take 24).all (fun c => isCode c || c.before args0 about1) = true := by decide +kernel
set_option maxRecDepth 65536 in
theorem w_t13 : (((((((((((((words1.drop 24).drop 24).drop 24).drop 24).drop 24).drop 24).drop 24).drop 24).drop 24).drop 24).drop 24).drop 24).take 24).all (fun c => isCode c || c.before args0 about1) = true := by decide +kernel
set_option maxRecDepth 65536 in
theorem w_t14 : ((((((((((((((words1.drop 24).drop 24).drop 24).drop 24).drop 24).drop 24).drop 24).drop 24).drop 24).drop 24).drop 24).drop 24).drop 24).take 24).all (fun c => isCode c || c.before args0 about1) = true := by decide +kernel
set_option maxRecDepth 65536 in
theorem w_t15 : ((((((((((((((words1.drop 24).drop 24).drop 24).drop 24).drop 24).drop 24).drop 24).drop 24).drop 24).drop 24).drop 24).drop 24).drop 24).drop 24).all (fun c => isCode c || c.before args0 about1) = true := by decide +kernel
theorem w_tables : (allAtoms (Cond.code x code maxLocals ret :: tables_1)).before args0 about1 = true := by
  rw [allAtoms_all]
  show words1.all (fun c => c.before args0 about1) = true
  refine all_split ?_ w_codes
  rw [← List.take_append_drop 24 words1, List.all_append, w_t1, ← List.take_append_drop 24 (words1.drop 24), List.all_append, w_t2, ← List.take_append_drop 24 ((words1.drop 24).drop 24), List.all_append, w_t3, ← List.take_append_drop 24 (((words1.drop 24).drop 24).drop 24), List.all_append, w_t4, ← List.take_append_drop 24 ((((words1.drop 24).drop 24).drop 24).drop 24), List.all_append, w_t5, ← List.take_append_drop 24 (((((words1.drop 24).drop 24).drop 24).drop 24).drop 24), List.all_append, w_t6, ← List.take_append_drop 24 ((((((words1.drop 24).drop 24).drop 24).drop 24).drop 24).drop 24), List.all_append, w_t7, ← List.take_append_drop 24 (((((((words1.drop 24).drop 24).drop 24).drop 24).drop 24).drop 24).drop 24), List.all_append, w_t8, ← List.take_append_drop 24 ((((((((words1.drop 24).drop 24).drop 24).drop 24).drop 24).drop 24).drop 24).drop 24), List.all_append, w_t9, ← List.take_append_drop 24 (((((((((words1.drop 24).drop 24).drop 24).drop 24).drop 24).drop 24).drop 24).drop 24).drop 24), List.all_append, w_t10, ← List.take_append_drop 24 ((((((((((words1.drop 24).drop 24).drop 24).drop 24).drop 24).drop 24).drop 24).drop 24).drop 24).drop 24), List.all_append, w_t11, ← List.take_append_drop 24 (((((((((((words1.drop 24).drop 24).drop 24).drop 24).drop 24).drop 24).drop 24).drop 24).drop 24).drop 24).drop 24), List.all_append, w_t12, ← List.take_append_drop 24 ((((((((((((words1.drop 24).drop 24).drop 24).drop 24).drop 24).drop 24).drop 24).drop 24).drop 24).drop 24).drop 24).drop 24), List.all_append, w_t13, ← List.take_append_drop 24 (((((((((((((words1.drop 24).drop 24).drop 24).drop 24).drop 24).drop 24).drop 24).drop 24).drop 24).drop 24).drop 24).drop 24).drop 24), List.all_append, w_t14, w_t15]
  rfl
set_option maxRecDepth 65536 in
theorem w_rest : rest_1_c.before args0 about1 = true := by decide +kernel
set_option maxRecDepth 65536 in
theorem w_case : (Cond.and given_1 narrow_1).before args0 about1 = true := by decide +kernel
theorem w_applies : (headSpec (Cond.code x code maxLocals ret :: tables_1) room_1).applies x e0.platform about1 = true :=
  (Spec.applies_iff w_frames).mpr ⟨w_running, w_runnable, w_alone, w_named, w_hears, w_ripe, w_room, w_tables⟩
set_option maxRecDepth 200000 in
theorem atStart : AtStart classFile x code maxLocals ret World_1 tables_1 room_1 Calls_1 rest_1 Pre_1 launch0 p0 e0 about1 theMethod args0 below0 :=
  ⟨lists_1, trivial, launch0.admits_env _ _ _, launch0.least_env, fairChoices_fair.cas, fairChoices_fair.clock, w_frames, w_args, w_heap, w_applies, ⟨⟨40, k40, 3, by decide +kernel, rfl, rfl, _, rfl, rfl⟩, trivial⟩, w_rest, w_case⟩
end start1
theorem witness_1 : WitnessClaimed_1 := ⟨start1.p0, start1.e0, start1.about1, start1.theMethod, start1.args0, start1.below0, start1.atStart⟩
end Jvm.Pilot.@@N@@
