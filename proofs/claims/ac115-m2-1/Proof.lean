import JvmDerived
import JvmDerived.Pilot.@@N@@Statement
import JvmDerived.Pilot.@@N@@Code
set_option linter.unusedVariables false
set_option linter.unusedSimpArgs false
namespace Jvm.RoadKit
open Sem ClassFile Op Lib Jvm.Stand Jvm.Free Jvm.LawKit
section New
variable {p : Program} {l : Launch} {e : Env} {R : Room} {s : State} {m : MethodId} {args : Array Value} {below : List Frame} {meth : Method} {c : Code} {T : State} {locs : List Loc} {cells slots : Nat}
theorem retI (X : Stand p l e R s m args below meth c T locs cells slots) (hx : p.tables.exec = Jvm.exec) {pc : Nat} {Ls : Array Slot} {z : Int32} {rest : List Value} (hret : meth.sig.returnType = some .int) (hd : decode c.code pc = .ok (.ireturn, 1)) {fs : List Frame}
    (hl : ∀ (f : JFrame) (acts : List Action), f.method = m → f.locked = none → f.entered = [] → (doReturn e (T.setTop f) acts (some (.int z))).1 = T.setFrames fs) : Steps p.tables e below (T.setTop (mkF m pc Ls (.int z :: rest))) (T.setFrames fs) := by
  have hm' : T.vm.method? m = some meth := X.method'
  have hn : narrow .int (.int z) = .int z := rfl
  show Steps p.tables e below (T.setTop { method := m, pc := pc, locals := Ls, stack := _ :: rest, locked := none }) _
  jvm_step X.here [X.here.top, hx, hd, hm', hret, hn]
  first | (intro acts; rw [hl _ acts rfl rfl rfl]) | rw [hl _ _ rfl rfl rfl]
  exact Steps.refl _
end New
end Jvm.RoadKit
namespace Jvm.RoadKit
open Sem ClassFile Op Lib Jvm.Stand Jvm.Free Jvm.LawKit
/-- own: the rest of a run, from the state t on -/
def Go (p : Program) (e : Env) (below : List Frame) (s : State) (Q : Option Value → Heap → List Loc → Prop) (C S : Nat) (t : State) : Prop :=
  ∃ s₂ o, Steps p.tables e below t s₂ ∧ s₂.status = .running ∧ Ended s₂ below o ∧ ∃ v L, o = .returned v ∧ Q v s₂.heap L ∧ FrameEnd s o s₂ L C S
theorem Go.st {p : Program} {e : Env} {below : List Frame} {s : State} {Q : Option Value → Heap → List Loc → Prop} {C S : Nat} {t t' : State} (h : ∀ target, Steps p.tables e below t' target → Steps p.tables e below t target) (k : Go p e below s Q C S t') : Go p e below s Q C S t := by
  obtain ⟨s₂, o, h1, h2⟩ := k
  exact ⟨s₂, o, h _ h1, h2⟩
theorem Go.by {p : Program} {e : Env} {below : List Frame} {s : State} {Q : Option Value → Heap → List Loc → Prop} {C S : Nat} {t t' : State} (h : Steps p.tables e below t t') (k : Go p e below s Q C S t') : Go p e below s Q C S t := by
  obtain ⟨s₂, o, h1, h2⟩ := k
  exact ⟨s₂, o, h.trans h1, h2⟩
theorem Go.ret {p : Program} {l : Launch} {e : Env} {R : Room} {s : State} {m : MethodId} {args : Array Value} {below : List Frame} {meth : Method} {c : Code} {T : State} {locs : List Loc} {cells slots : Nat} {Q : Option Value → Heap → List Loc → Prop} {C S : Nat} {t : State}
    (X : Stand p l e R s m args below meth c T locs cells slots) {v : Option Value} (hv : meth.sig.returnType = none → v = none) (hlocks : meth.locks = false)
    (st : ∀ fs, (∀ (f : JFrame) (acts : List Action), f.method = m → f.locked = none → f.entered = [] → (doReturn e (T.setTop f) acts v).1 = T.setFrames fs) → Steps p.tables e below t (T.setFrames fs))
    (hQ : Q v T.heap locs) (hC : cells ≤ C) (hS : slots ≤ S) : Go p e below s Q C S t := by
  obtain ⟨fs, hr, hrun, hended, hW, hsame⟩ := X.leave hv hlocks
  exact ⟨_, _, st fs hr, hrun, hended, _, _, rfl, hQ, ⟨_, rfl⟩, hW, hsame.mono hC hS⟩
def GoW (p : Program) (e : Env) (below : List Frame) (s : State) (Q : Option Value → Heap → List Loc → Prop) (C S : Nat) (t : State) : Prop :=
  ∃ s₂ o, Steps p.tables e below t s₂ ∧ s₂.status = .running ∧ Ended s₂ below o ∧ ∃ v L, o = .returned v ∧ Q v s₂.heap L ∧ ReturnedEndW s o s₂ L C S
theorem GoW.st {p : Program} {e : Env} {below : List Frame} {s : State} {Q : Option Value → Heap → List Loc → Prop} {C S : Nat} {t t' : State} (h : ∀ target, Steps p.tables e below t' target → Steps p.tables e below t target) (k : GoW p e below s Q C S t') : GoW p e below s Q C S t := by
  obtain ⟨s₂, o, h1, h2⟩ := k
  exact ⟨s₂, o, h _ h1, h2⟩
theorem GoW.by {p : Program} {e : Env} {below : List Frame} {s : State} {Q : Option Value → Heap → List Loc → Prop} {C S : Nat} {t t' : State} (h : Steps p.tables e below t t') (k : GoW p e below s Q C S t') : GoW p e below s Q C S t := by
  obtain ⟨s₂, o, h1, h2⟩ := k
  exact ⟨s₂, o, h.trans h1, h2⟩
theorem GoW.ret {p : Program} {l : Launch} {e : Env} {R : Room} {s : State} {vm₁ : Vm} {m : MethodId} {args : Array Value} {below : List Frame} {meth : Method} {c : Code} {T : State} {locs : List Loc} {cells slots : Nat} {Q : Option Value → Heap → List Loc → Prop} {C S : Nat} {t : State}
    (X : Stand p l e R (s.setVm vm₁) m args below meth c T locs cells slots) {n : Nat} (hSi : s.Since vm₁ n) (hn : n ≤ T.heap.size) {v : Option Value} (hv : meth.sig.returnType = none → v = none) (hlocks : meth.locks = false)
    (st : ∀ fs, (∀ (f : JFrame) (acts : List Action), f.method = m → f.locked = none → f.entered = [] → (doReturn e (T.setTop f) acts v).1 = T.setFrames fs) → Steps p.tables e below t (T.setFrames fs))
    (hQ : Q v T.heap locs) (hC : cells ≤ C) (hS : slots ≤ S) : GoW p e below s Q C S t := by
  obtain ⟨fs, hr, hrun, hended, h1, h2, h3, h4⟩ := X.leaveW hSi hn hv hlocks
  exact ⟨_, _, st fs hr, hrun, hended, _, _, rfl, hQ, h1, h2, h3, h4.mono hC hS⟩
abbrev Rm (f c s l : Nat) : Room := { frames := f, cells := c, slots := s, locals := l }
abbrev Met (l : Launch) (Z : State) (ws : List Cond) (y : MethodName) (bytes : ByteArray) (ml : Nat) (rt : Option FieldType) (rm : Room) (as' : Array Value) (h0 : Heap) (Q : Option Value → Heap → List Loc → Prop) : Prop :=
  MetFree l y (head1 (Cond.code y bytes ml rt :: ws) rm) (fun a U => a = as' ∧ Z.Warmed39 U.vm ∧ U.heap = h0) (fun _ _ _ _ _ => True) (fun _ U o U' => ∃ v L, o = .returned v ∧ Q v U'.heap L ∧ FrameEnd U o U' L rm.cells rm.slots)
theorem Met.enter {l : Launch} {Z : State} {ws : List Cond} {y : MethodName} {bytes : ByteArray} {ml : Nat} {rt : Option FieldType} {rm : Room} {as' : Array Value} {h0 : Heap} {Q : Option Value → Heap → List Loc → Prop} {L0 : Array Slot} (hp : plainFor y = true) (ef : ∀ m, entryFrame m as' ml = mkF m 0 L0 [])
    (body : ∀ (p : Program) (e : Env) (s : State) (m : MethodId) (below : List Frame) (meth : Method) (c : Code) (s₁ : State), p.tables.exec = Jvm.exec → c.code = bytes → c.maxLocals = ml → s.vm.findClass y.cls = some m.cls → meth.name = y.name → meth.sig.returnType = rt → meth.locks = false → Z.Warmed39 s.vm → Stand p l e rm s m as' below meth c s₁ [] 0 0 → s₁.heap = h0 → Go p e below s Q rm.cells rm.slots (s₁.setTop (mkF m 0 L0 []))) : Met l Z ws y bytes ml rt rm as' h0 Q := by
  refine MetFree.of_bodySF hp hisR ?_
  intro p e s m args below meth c s₁ Bd hml0 hP hK
  obtain ⟨rfl, hZ, hh⟩ := hP
  have e0 : s₁.heap = h0 := by rw [← hh, Bd.state]; rfl
  exact Go.st (fun t k => castTop (ef m) k) (body p e s m below meth c s₁ Bd.exec Bd.bytes hml0 (findClass_of_methodNamed Bd.named) (name_of_methodNamed Bd.named Bd.method).1 Bd.returns (BodyLoose.notSynchronized Bd) hZ (Stand.of_body Bd) e0)
abbrev MetW (l : Launch) (Z : State) (ws : List Cond) (y : MethodName) (bytes : ByteArray) (ml : Nat) (rt : Option FieldType) (rm : Room) (as' : Array Value) (h0 : Heap) (Q : Option Value → Heap → List Loc → Prop) : Prop :=
  MetFree l y (head1 (Cond.code y bytes ml rt :: ws) rm) (fun a U => a = as' ∧ Z.Warmed39 U.vm ∧ U.heap = h0) (fun _ _ _ _ _ => True) (fun _ U o U' => ∃ v L, o = .returned v ∧ Q v U'.heap L ∧ ReturnedEndW U o U' L rm.cells rm.slots)
theorem MetW.enter {l : Launch} {Z : State} {ws : List Cond} {y : MethodName} {bytes : ByteArray} {ml : Nat} {rt : Option FieldType} {rm : Room} {as' : Array Value} {h0 : Heap} {Q : Option Value → Heap → List Loc → Prop} {L0 : Array Slot} (hp : plainFor y = true) (ef : ∀ m, entryFrame m as' ml = mkF m 0 L0 [])
    (body : ∀ (p : Program) (e : Env) (s : State) (m : MethodId) (below : List Frame) (meth : Method) (c : Code) (s₁ : State), p.tables.exec = Jvm.exec → c.code = bytes → c.maxLocals = ml → s.vm.findClass y.cls = some m.cls → meth.name = y.name → meth.sig.returnType = rt → meth.locks = false → Z.Warmed39 s.vm → Stand p l e rm (s.setVm s.vm) m as' below meth c s₁ [] 0 0 → s₁.heap = h0 → GoW p e below s Q rm.cells rm.slots (s₁.setTop (mkF m 0 L0 []))) : MetW l Z ws y bytes ml rt rm as' h0 Q := by
  refine MetFree.of_bodySF hp hisR ?_
  intro p e s m args below meth c s₁ Bd hml0 hP hK
  obtain ⟨rfl, hZ, hh⟩ := hP
  have e0 : s₁.heap = h0 := by rw [← hh, Bd.state]; rfl
  exact GoW.st (fun t k => castTop (ef m) k) (body p e s m below meth c s₁ Bd.exec Bd.bytes hml0 (findClass_of_methodNamed Bd.named) (name_of_methodNamed Bd.named Bd.method).1 Bd.returns (BodyLoose.notSynchronized Bd) hZ (Stand.of_body Bd) e0)
def GoH (p : Program) (e : Env) (below : List Frame) (s : State) (P : Option Value → State → List Loc → Prop) (C S : Nat) (t : State) : Prop :=
  ∃ s₂ o, Steps p.tables e below t s₂ ∧ s₂.status = .running ∧ Ended s₂ below o ∧ ∃ v L, o = .returned v ∧ P v s₂ L ∧ ReturnedEndW s o s₂ L C S
theorem GoH.st {p : Program} {e : Env} {below : List Frame} {s : State} {P : Option Value → State → List Loc → Prop} {C S : Nat} {t t' : State} (h : ∀ target, Steps p.tables e below t' target → Steps p.tables e below t target) (k : GoH p e below s P C S t') : GoH p e below s P C S t := by
  obtain ⟨s₂, o, h1, h2⟩ := k
  exact ⟨s₂, o, h _ h1, h2⟩
theorem GoH.by {p : Program} {e : Env} {below : List Frame} {s : State} {P : Option Value → State → List Loc → Prop} {C S : Nat} {t t' : State} (h : Steps p.tables e below t t') (k : GoH p e below s P C S t') : GoH p e below s P C S t := by
  obtain ⟨s₂, o, h1, h2⟩ := k
  exact ⟨s₂, o, h.trans h1, h2⟩
theorem GoH.ret {p : Program} {l : Launch} {e : Env} {R : Room} {s : State} {vm₁ : Vm} {m : MethodId} {args : Array Value} {below : List Frame} {meth : Method} {c : Code} {T : State} {locs : List Loc} {cells slots : Nat} {Q : Option Value → Heap → List Loc → Prop} {C S : Nat} {t : State} {Z : State} {EL : List (String × Nat)} {a0 : Array Value} {h0 h : Heap}
    (X : Stand p l e R (s.setVm vm₁) m args below meth c T locs cells slots) {n : Nat} (hSi : s.Since vm₁ n) (hn : n ≤ T.heap.size) (hZ : Z.Warmed39 vm₁) (hEL : EW Z a0 EL) (ch : CHr Z EL s.vm h0 vm₁ h) (eT : T.heap = h) {v : Option Value} (hv : meth.sig.returnType = none → v = none) (hlocks : meth.locks = false)
    (st : ∀ fs, (∀ (f : JFrame) (acts : List Action), f.method = m → f.locked = none → f.entered = [] → (doReturn e (T.setTop f) acts v).1 = T.setFrames fs) → Steps p.tables e below t (T.setFrames fs))
    (hQ : Q v T.heap locs) (hC : cells ≤ C) (hS : slots ≤ S) : GoH p e below s (fun v s₂ L => Q v s₂.heap L ∧ CHr Z EL s.vm h0 s₂.vm s₂.heap) C S t := by
  obtain ⟨fs, hr, hrun, hended, h1, h2, h3, h4⟩ := X.leaveW hSi hn hv hlocks
  have q := ch.trans (CHv.at X hZ hEL ch.1)
  rw [← eT] at q
  exact ⟨_, _, st fs hr, hrun, hended, _, _, rfl, ⟨hQ, q⟩, h1, h2, h3, h4.mono hC hS⟩
abbrev MetH (EL : List (String × Nat)) (xs : List Addr) (l : Launch) (Z : State) (ws : List Cond) (y : MethodName) (bytes : ByteArray) (ml : Nat) (rt : Option FieldType) (rm : Room) (as' : Array Value) (h0 : Heap) (Q : Option Value → Heap → List Loc → Prop) : Prop :=
  MetFree l y (head1 (Cond.code y bytes ml rt :: ws) rm) (fun a U => a = as' ∧ Z.Warmed39 U.vm ∧ U.heap = h0 ∧ CHv Z EL U.vm h0 ∧ ∀ x ∈ xs, Safe Z EL U.vm h0 x) (fun _ _ _ _ _ => True) (fun _ U o U' => ∃ v L, o = .returned v ∧ Q v U'.heap L ∧ CHr Z EL U.vm U.heap U'.vm U'.heap ∧ ReturnedEndW U o U' L rm.cells rm.slots)
theorem MetH.enter {EL : List (String × Nat)} {xs : List Addr} {l : Launch} {Z : State} {ws : List Cond} {y : MethodName} {bytes : ByteArray} {ml : Nat} {rt : Option FieldType} {rm : Room} {as' : Array Value} {h0 : Heap} {Q : Option Value → Heap → List Loc → Prop} {L0 : Array Slot} (hp : plainFor y = true) (ef : ∀ m, entryFrame m as' ml = mkF m 0 L0 [])
    (body : ∀ (p : Program) (e : Env) (s : State) (m : MethodId) (below : List Frame) (meth : Method) (c : Code) (s₁ : State), p.tables.exec = Jvm.exec → c.code = bytes → c.maxLocals = ml → s.vm.findClass y.cls = some m.cls → meth.name = y.name → meth.sig.returnType = rt → meth.locks = false → Z.Warmed39 s.vm → Stand p l e rm (s.setVm s.vm) m as' below meth c s₁ [] 0 0 → s₁.heap = h0 → CHv Z EL s.vm h0 → (∀ x ∈ xs, Safe Z EL s.vm h0 x) → GoH p e below s (fun v s₂ L => Q v s₂.heap L ∧ CHr Z EL s.vm h0 s₂.vm s₂.heap) rm.cells rm.slots (s₁.setTop (mkF m 0 L0 []))) : MetH EL xs l Z ws y bytes ml rt rm as' h0 Q := by
  refine MetFree.of_bodySF hp hisR ?_
  intro p e s m args below meth c s₁ Bd hml0 hP hK
  obtain ⟨rfl, hZ, hh, hH, hX⟩ := hP
  have e0 : s₁.heap = h0 := by rw [← hh, Bd.state]; rfl
  obtain ⟨s₂, o, q1, q2, q3, v, L, q4, ⟨q5, q6⟩, q7⟩ := GoH.st (fun t k => castTop (ef m) k) (body p e s m below meth c s₁ Bd.exec Bd.bytes hml0 (findClass_of_methodNamed Bd.named) (name_of_methodNamed Bd.named Bd.method).1 Bd.returns (BodyLoose.notSynchronized Bd) hZ (Stand.of_body Bd) e0 hH hX)
  exact ⟨s₂, o, q1, q2, q3, v, L, q4, q5, by rw [hh]; exact q6, q7⟩
abbrev MetP (EL : List (String × Nat)) (xs : List Addr) (l : Launch) (Z : State) (ws : List Cond) (y : MethodName) (bytes : ByteArray) (ml : Nat) (rt : Option FieldType) (rm : Room) (as' : Array Value) (h0 : Heap) (Q : Option Value → Heap → List Loc → Prop) : Prop :=
  MetFree l y (head1 (Cond.code y bytes ml rt :: ws) rm) (fun a U => a = as' ∧ Z.Warmed39 U.vm ∧ U.heap = h0 ∧ CHv Z EL U.vm h0 ∧ ∀ x ∈ xs, Safe Z EL U.vm h0 x) (fun _ _ _ _ _ => True) (fun _ U o U' => ∃ v L, o = .returned v ∧ Q v U'.heap L ∧ ReturnedEndW U o U' L rm.cells rm.slots)
theorem MetP.enter {EL : List (String × Nat)} {xs : List Addr} {l : Launch} {Z : State} {ws : List Cond} {y : MethodName} {bytes : ByteArray} {ml : Nat} {rt : Option FieldType} {rm : Room} {as' : Array Value} {h0 : Heap} {Q : Option Value → Heap → List Loc → Prop} {L0 : Array Slot} (hp : plainFor y = true) (ef : ∀ m, entryFrame m as' ml = mkF m 0 L0 [])
    (body : ∀ (p : Program) (e : Env) (s : State) (m : MethodId) (below : List Frame) (meth : Method) (c : Code) (s₁ : State), p.tables.exec = Jvm.exec → c.code = bytes → c.maxLocals = ml → s.vm.findClass y.cls = some m.cls → meth.name = y.name → meth.sig.returnType = rt → meth.locks = false → Z.Warmed39 s.vm → Stand p l e rm (s.setVm s.vm) m as' below meth c s₁ [] 0 0 → s₁.heap = h0 → CHv Z EL s.vm h0 → (∀ x ∈ xs, Safe Z EL s.vm h0 x) → GoW p e below s Q rm.cells rm.slots (s₁.setTop (mkF m 0 L0 []))) : MetP EL xs l Z ws y bytes ml rt rm as' h0 Q := by
  refine MetFree.of_bodySF hp hisR ?_
  intro p e s m args below meth c s₁ Bd hml0 hP hK
  obtain ⟨rfl, hZ, hh, hH, hX⟩ := hP
  have e0 : s₁.heap = h0 := by rw [← hh, Bd.state]; rfl
  exact GoW.st (fun t k => castTop (ef m) k) (body p e s m below meth c s₁ Bd.exec Bd.bytes hml0 (findClass_of_methodNamed Bd.named) (name_of_methodNamed Bd.named Bd.method).1 Bd.returns (BodyLoose.notSynchronized Bd) hZ (Stand.of_body Bd) e0 hH hX)
theorem own_backOfSX {p : Program} {l : Launch} {e : Env} {R : Room} {s : State} {args : Array Value} {below : List Frame} {Z : State} {a0 : Array Value} {EL : List (String × Nat)} {xs : List Addr} {h : Heap} {vm0 : Vm} {y : MethodName} {bytes : ByteArray} {maxL : Nat} {ret : Option FieldType} {rm : Room} {len W : Nat} {as' : Array Value} {Q : Option Value → Heap → List Loc → Prop}
    (hM : MetFree l y (head1 [Cond.code y bytes maxL ret] rm) (fun a U => a = as' ∧ Z.Warmed39 U.vm ∧ U.heap = h ∧ CHv Z EL U.vm h ∧ ∀ x ∈ xs, Safe Z EL U.vm h x) (fun _ _ _ _ _ => True) (fun _ U o U' => ∃ v L, o = .returned v ∧ Q v U'.heap L ∧ CHr Z EL U.vm U.heap U'.vm U'.heap ∧ ReturnedEndW U o U' L rm.cells rm.slots))
    (hZ : Z.Warmed39 vm0) (wc : (Cond.code y bytes maxL ret).before a0 Z = true) (wz : (Cond.initialized y.cls).before a0 Z = true) (hf : rm.frames + 1 ≤ R.frames) (hl : W + (maxL + 11) + rm.locals ≤ R.locals) (hEL : EW Z a0 EL) (H : CHv Z EL vm0 h) (hxs : ∀ x ∈ xs, x < h.size ∧ Safe Z EL vm0 h x) :
    BackS l R p e below (s.setVm vm0) args y len W (fun A a => a = as' ∧ A.U.heap = h ∧ A.cells + rm.cells ≤ R.cells ∧ A.slots + rm.slots ≤ R.slots)
      (fun A _ v B => ∃ L, Q v B.U.heap L ∧ B.locs = A.locs ++ L ∧ B.cells = A.cells + rm.cells ∧ B.slots = A.slots + rm.slots ∧ CHr Z EL vm0 h B.U.vm B.U.heap) :=
  BackS.of_freeW (bytes := bytes) (maxL := maxL) (ret := ret) (E := fun _ first o t L k n => k = rm.cells ∧ n = rm.slots ∧ (∃ v, o = .returned v ∧ Q v t.heap L) ∧ CHr Z EL first.vm first.heap t.vm t.heap) hM hf hl
    (fun m meth c A a Y hp => have hU : Z.Warmed39 A.U.vm := wtrans (s := s.setVm vm0) hZ Y.warmed
      ⟨by show (Cond.and _ .tt).before a A.U = true; rw [Cond.before_and, mv hU wc]; rfl, mv hU wc, mv hU wz, hp.2.2.1, hp.2.2.2⟩)
    (fun m meth c A a g mk Y hp => ⟨hp.1, wtrans (s := s.setVm vm0) hZ Y.warmed, hp.2.1, (CHv.at Y hZ hEL H).1, fun x hx => (CHv.at Y hZ hEL H).safe (hxs x hx).1 (hxs x hx).2⟩) (fun _ _ _ _ _ _ _ _ _ => trivial)
    (fun _ _ _ _ ⟨v, L, h1, h2, h3, h4⟩ => ⟨L, _, _, h4, rfl, rfl, ⟨v, h1, h2⟩, h3⟩)
    (fun m meth c A a g mk v t L k n Y hp _ _ ⟨e1, e2, ⟨v', e3, e4⟩, e5⟩ => by
      cases e3; subst e1 e2
      refine ⟨L, e4, rfl, rfl, rfl, (CHv.at Y hZ hEL H).trans ?_⟩
      rw [← hp.2.1]; exact e5)
theorem own_backOfSP {p : Program} {l : Launch} {e : Env} {R : Room} {s : State} {args : Array Value} {below : List Frame} {Z : State} {a0 : Array Value} {EL : List (String × Nat)} {xs : List Addr} {h : Heap} {vm0 : Vm} {y : MethodName} {bytes : ByteArray} {maxL : Nat} {ret : Option FieldType} {rm : Room} {len W : Nat} {as' : Array Value} {Q : Option Value → Heap → List Loc → Prop}
    (hM : MetFree l y (head1 [Cond.code y bytes maxL ret] rm) (fun a U => a = as' ∧ Z.Warmed39 U.vm ∧ U.heap = h ∧ CHv Z EL U.vm h ∧ ∀ x ∈ xs, Safe Z EL U.vm h x) (fun _ _ _ _ _ => True) (fun _ U o U' => ∃ v L, o = .returned v ∧ Q v U'.heap L ∧ ReturnedEndW U o U' L rm.cells rm.slots))
    (hZ : Z.Warmed39 vm0) (wc : (Cond.code y bytes maxL ret).before a0 Z = true) (wz : (Cond.initialized y.cls).before a0 Z = true) (hf : rm.frames + 1 ≤ R.frames) (hl : W + (maxL + 11) + rm.locals ≤ R.locals) (hEL : EW Z a0 EL) (H : CHv Z EL vm0 h) (hxs : ∀ x ∈ xs, x < h.size ∧ Safe Z EL vm0 h x) :
    BackS l R p e below (s.setVm vm0) args y len W (fun A a => a = as' ∧ A.U.heap = h ∧ A.cells + rm.cells ≤ R.cells ∧ A.slots + rm.slots ≤ R.slots)
      (fun A _ v B => ∃ L, Q v B.U.heap L ∧ B.locs = A.locs ++ L ∧ B.cells = A.cells + rm.cells ∧ B.slots = A.slots + rm.slots) :=
  BackS.of_freeW (bytes := bytes) (maxL := maxL) (ret := ret) (E := fun _ first o t L k n => k = rm.cells ∧ n = rm.slots ∧ (∃ v, o = .returned v ∧ Q v t.heap L)) hM hf hl
    (fun m meth c A a Y hp => have hU : Z.Warmed39 A.U.vm := wtrans (s := s.setVm vm0) hZ Y.warmed
      ⟨by show (Cond.and _ .tt).before a A.U = true; rw [Cond.before_and, mv hU wc]; rfl, mv hU wc, mv hU wz, hp.2.2.1, hp.2.2.2⟩)
    (fun m meth c A a g mk Y hp => ⟨hp.1, wtrans (s := s.setVm vm0) hZ Y.warmed, hp.2.1, (CHv.at Y hZ hEL H).1, fun x hx => (CHv.at Y hZ hEL H).safe (hxs x hx).1 (hxs x hx).2⟩) (fun _ _ _ _ _ _ _ _ _ => trivial)
    (fun _ _ _ _ ⟨v, L, h1, h2, h4⟩ => ⟨L, _, _, h4, rfl, rfl, ⟨v, h1, h2⟩⟩)
    (fun m meth c A a g mk v t L k n Y hp _ _ ⟨e1, e2, ⟨v', e3, e4⟩⟩ => by
      cases e3; subst e1 e2
      exact ⟨L, e4, rfl, rfl, rfl⟩)
theorem retR {p : Program} {l : Launch} {e : Env} {R : Room} {s : State} {m : MethodId} {args : Array Value} {below : List Frame} {meth : Method} {c : Code} {T : State} {locs : List Loc} {cells slots : Nat} (X : Stand p l e R s m args below meth c T locs cells slots) (hx : p.tables.exec = Jvm.exec) {pc : Nat} {Ls : Array Slot} {z : Value} {rest : List Value} {t : FieldType} (hret : meth.sig.returnType = some t) (ht : t.isReference = true) (hz : z.isRef = true) (hd : decode c.code pc = .ok (.areturn, 1)) {fs : List Frame}
    (hl : ∀ (f : JFrame) (acts : List Action), f.method = m → f.locked = none → f.entered = [] → (doReturn e (T.setTop f) acts (some z)).1 = T.setFrames fs) : Steps p.tables e below (T.setTop (mkF m pc Ls (z :: rest))) (T.setFrames fs) := by
  have hm' : T.vm.method? m = some meth := X.method'
  show Steps p.tables e below (T.setTop { method := m, pc := pc, locals := Ls, stack := _ :: rest, locked := none }) _
  jvm_step X.here [X.here.top, hx, hd, hm', hret, ht, hz]
  first | (intro acts; rw [hl _ acts rfl rfl rfl]) | rw [hl _ _ rfl rfl rfl]
  exact Steps.refl _
theorem retJ {p : Program} {l : Launch} {e : Env} {R : Room} {s : State} {m : MethodId} {args : Array Value} {below : List Frame} {meth : Method} {c : Code} {T : State} {locs : List Loc} {cells slots : Nat} (X : Stand p l e R s m args below meth c T locs cells slots) (hx : p.tables.exec = Jvm.exec) {pc : Nat} {Ls : Array Slot} {z : Int64} {rest : List Value} (hret : meth.sig.returnType = some .long) (hd : decode c.code pc = .ok (.lreturn, 1)) {fs : List Frame}
    (hl : ∀ (f : JFrame) (acts : List Action), f.method = m → f.locked = none → f.entered = [] → (doReturn e (T.setTop f) acts (some (.long z))).1 = T.setFrames fs) : Steps p.tables e below (T.setTop (mkF m pc Ls (.long z :: rest))) (T.setFrames fs) := by
  have hm' : T.vm.method? m = some meth := X.method'
  show Steps p.tables e below (T.setTop { method := m, pc := pc, locals := Ls, stack := _ :: rest, locked := none }) _
  jvm_step X.here [X.here.top, hx, hd, hm', hret, narrow]
  first | (intro acts; rw [hl _ acts rfl rfl rfl]) | rw [hl _ _ rfl rfl rfl]
  exact Steps.refl _
theorem retD {p : Program} {l : Launch} {e : Env} {R : Room} {s : State} {m : MethodId} {args : Array Value} {below : List Frame} {meth : Method} {c : Code} {T : State} {locs : List Loc} {cells slots : Nat} (X : Stand p l e R s m args below meth c T locs cells slots) (hx : p.tables.exec = Jvm.exec) {pc : Nat} {Ls : Array Slot} {z : UInt64} {rest : List Value} (hret : meth.sig.returnType = some .double) (hd : decode c.code pc = .ok (.dreturn, 1)) {fs : List Frame}
    (hl : ∀ (f : JFrame) (acts : List Action), f.method = m → f.locked = none → f.entered = [] → (doReturn e (T.setTop f) acts (some (.double z))).1 = T.setFrames fs) : Steps p.tables e below (T.setTop (mkF m pc Ls (.double z :: rest))) (T.setFrames fs) := by
  have hm' : T.vm.method? m = some meth := X.method'
  show Steps p.tables e below (T.setTop { method := m, pc := pc, locals := Ls, stack := _ :: rest, locked := none }) _
  jvm_step X.here [X.here.top, hx, hd, hm', hret, narrow]
  first | (intro acts; rw [hl _ acts rfl rfl rfl]) | rw [hl _ _ rfl rfl rfl]
  exact Steps.refl _
theorem Arr.keep {Z : State} {h h' : Heap} {a : Addr} {c : Cell} {ty : FieldType} {ws : List Addr} (F : Arr Z h a c ty) (K : Keep h h' ws) (q : a ∉ ws) : Arr Z h' a c ty := ⟨K.2.1 a c F.1 q, F.2⟩
theorem Ins.keep {Z : State} {h h' : Heap} {a : Addr} {C : String} {b : Bool} {ws : List Addr} (F : Ins Z h a C b) (K : Keep h h' ws) : Ins Z h' a C b := by
  obtain ⟨cell, cT, h1, h2, h3⟩ := F
  obtain ⟨c', q, r1, r2, -⟩ := K.2.2 a cell h1
  exact ⟨c', cT, q, h2, by rw [r1, r2]; exact h3⟩
theorem own_selp {Z : State} {a0 : Array Value} {y : MethodName} {k : Nat} (wi : (Jvm.Cond.instantiable y.cls k).before a0 Z = true) (wp : (Jvm.Cond.privateMethod y).before a0 Z = true) (wm : (Jvm.Cond.instanceMethod y).before a0 Z = true) (hy : y.cls ≠ "java/lang/invoke/MethodHandle" ∧ y.cls ≠ "java/lang/invoke/VarHandle") : (Jvm.Cond.selects y.cls y y).before a0 Z = true := by
  obtain ⟨c, k', h1, h2, -, h3, -⟩ := Cond.instantiable_spec wi
  exact selects_self_of_private h1 h2 (by simp only [Bool.or_eq_false_iff] at h3; exact h3.1) (Cond.privateMethod_at wp) wm hy
theorem own_mvNest {Z s : State} {a0 args : Array Value} {own host : String} {index : Nat} {y : MethodName} (hZ : Z.Warmed39 s.vm) (w : (Jvm.Cond.methodLinkNest own index y host).before a0 Z = true) : (Jvm.Cond.methodLinkNest own index y host).before args s = true := (Cond.methodLinkNest_wide hZ w :)
theorem own_nsroot {Z : State} {a0 : Array Value} {O K : String} {n : Nat} (w : (Jvm.Cond.noSuperclass O).before a0 Z = true) (wk : (Jvm.Cond.instantiable K n).before a0 Z = true) (hn : O ≠ K) : NS Z O K := by
  obtain ⟨c, k, h1, h2, h3, -, -⟩ := Cond.noSuperclass_spec w
  obtain ⟨t, kt, g1, -⟩ := Cond.instantiable_spec wk
  have ne := ids_ne h1 g1 hn
  exact ⟨c, t, h1, g1, fun fuel => by cases fuel with | zero => rfl | succ f => simp [Vm.isSubclassAux, ne, h2, h3]⟩
theorem own_nsno {Z : State} {a0 : Array Value} {C S K : String} {n : Nat} (w : (Jvm.Cond.superclass C S).before a0 Z = true) (wk : (Jvm.Cond.instantiable K n).before a0 Z = true) (nn : NS Z C K) (hn : C ≠ K) : ∃ c t, Z.vm.findClass C = some c ∧ Z.vm.findClass K = some t ∧ Z.vm.assignable c t = false := by
  obtain ⟨c, t, h0, g0, n3⟩ := nn
  obtain ⟨p, k, kp, -, h2, -, -, h5, -, h7⟩ := Cond.superclass_spec h0 w
  obtain ⟨t', k', g1, g2, g3, g4, -⟩ := Cond.instantiable_spec wk
  cases g0.symm.trans g1
  simp only [Bool.or_eq_false_iff] at g4
  have ne := ids_ne h0 g0 hn
  refine ⟨c, _, h0, g0, ?_⟩
  show Z.vm.assignableAux (255 + 1) c _ = false
  simp [Vm.assignableAux, ne, h2, g2, h5, g3, g4.1, Vm.isSubclass, n3]
section OwnWords
variable {args : Array Value} {first s : State} {o : Option Outcome} {idx : List Nat} {a b t : Term}
theorem own_eqi {z : Int32} (h : (Jvm.Cond.eq a (Term.int z)).value args first o s idx = some true) : a.eval args first o idx s = some (.int z) := by
  obtain ⟨x, y, h1, h2, h3, h4⟩ := cmp_v (Or.inl h)
  obtain rfl : .int z = y := Option.some.inj ((Term.int_eval z).symm.trans h2)
  obtain ⟨w, rfl⟩ := h4
  simp only [Cond.value, h1, h2] at h
  simp at h
  rw [h1, h]
theorem own_eqr {w : Addr} (h : (Jvm.Cond.eq a b).value args first o s idx = some true) (hb : b.eval args first o idx s = some (.ref w)) : a.eval args first o idx s = some (.ref w) := by
  obtain ⟨x, y, h1, h2, h3, h4⟩ := cmp_v (Or.inl h)
  cases h2.symm.trans hb
  have hx : x.isRef = true := h4.2
  have q := gotT (eq_R h1 h2 hx rfl) h
  rw [h1, q]
theorem own_len {n : Int32} {w : Addr} {cl : Cell} (h : (Term.length t).eval args first o idx s = some (.int n)) (ht : t.eval args first o idx s = some (.ref w)) (hc : s.heap[w]? = some cl) : cl.slots.size = n.toNatClampNeg ∧ ¬ n < 0 := by
  obtain ⟨a', cell, ha', hat, hv⟩ := Term.length_spec h
  cases ht.symm.trans ha'
  cases (State.arrayAt?_spec hat).1.symm.trans hc
  have hsz : cl.slots.size < 2 ^ 31 := by
    simp only [Term.eval, ht, hat, Option.bind_eq_bind, Option.bind_some] at h
    by_cases hlt : cl.slots.size < 2147483648
    · exact hlt
    · simp [hlt] at h
  cases hv
  refine ⟨?_, ?_⟩
  · simp only [Int32.toNatClampNeg, len_toInt hsz]; rfl
  · rw [Int32.lt_iff_toInt_lt, len_toInt hsz]; show ¬ (cl.slots.size : Int) < 0; omega
end OwnWords
end Jvm.RoadKit
namespace Jvm.Pilot.@@N@@
open Jvm Jvm.ClassFile Sem Op Lib Jvm.Free Jvm.Stand Jvm.LawKit Jvm.RoadKit Bundle Jvm.Pilot.@@N@@.Jvm.D
set_option maxRecDepth 65536
set_option maxHeartbeats 40000000
theorem own_and3 (p : Int32) : (p &&& (3 : Int32)) = (0 : Int32) ∨ (p &&& (3 : Int32)) = (1 : Int32) ∨ (p &&& (3 : Int32)) = (2 : Int32) ∨ (p &&& (3 : Int32)) = (3 : Int32) := by
  have h := c_and p 3 (by decide)
  have e0 : (0 : Int32).toInt = 0 := rfl
  have e1 : (1 : Int32).toInt = 1 := rfl
  have e2 : (2 : Int32).toInt = 2 := rfl
  have e3 : (3 : Int32).toInt = 3 := rfl
  simp only [← Int32.toInt_inj, e0, e1, e2, e3]
  omega
theorem d2_0 : decode prog_6_method_1_code 0 = .ok (.getstatic 16, 3) := by decide +kernel
theorem tw9 : (Jvm.Cond.fieldLink "com/example/mooring/mooring/Change$Event" (16 : Nat) "com/example/mooring/mooring/Change$Event" "$VALUES" "[Lcom/example/mooring/mooring/Change$Event;") ∈ tables_1 := List.mem_of_getElem? (i := 9) rfl
theorem d2_3 : decode prog_6_method_1_code 3 = .ok (.invokevirtual 20, 3) := by decide +kernel
theorem tw11 : (Jvm.Cond.methodLink "com/example/mooring/mooring/Change$Event" (20 : Nat) ({ cls := "[Lcom/example/mooring/mooring/Change$Event;", name := "clone", desc := "()Ljava/lang/Object;" } : Jvm.MethodName)) ∈ tables_1 := List.mem_of_getElem? (i := 11) rfl
theorem tw12 : (Jvm.Cond.sameMethod "[Lcom/example/mooring/mooring/Change$Event;" "java/lang/Object" "clone" "()Ljava/lang/Object;") ∈ tables_1 := List.mem_of_getElem? (i := 12) rfl
theorem tw16 : (Jvm.Cond.native ({ cls := "java/lang/Object", name := "clone", desc := "()Ljava/lang/Object;" } : Jvm.MethodName)) ∈ tables_1 := List.mem_of_getElem? (i := 16) rfl
theorem tw14 : (Jvm.Cond.instanceMethod ({ cls := "java/lang/Object", name := "clone", desc := "()Ljava/lang/Object;" } : Jvm.MethodName)) ∈ tables_1 := List.mem_of_getElem? (i := 14) rfl
theorem tw15 : (Jvm.Cond.selects "[Lcom/example/mooring/mooring/Change$Event;" ({ cls := "[Lcom/example/mooring/mooring/Change$Event;", name := "clone", desc := "()Ljava/lang/Object;" } : Jvm.MethodName) ({ cls := "java/lang/Object", name := "clone", desc := "()Ljava/lang/Object;" } : Jvm.MethodName)) ∈ tables_1 := List.mem_of_getElem? (i := 15) rfl
theorem tw17 : (Jvm.Cond.castable "[Lcom/example/mooring/mooring/Change$Event;" "java/lang/Cloneable") ∈ tables_1 := List.mem_of_getElem? (i := 17) rfl
theorem d2_6 : decode prog_6_method_1_code 6 = .ok (.checkcast 21, 3) := by decide +kernel
theorem tw22 : (Jvm.Cond.classLink "com/example/mooring/mooring/Change$Event" (21 : Nat) "[Lcom/example/mooring/mooring/Change$Event;") ∈ tables_1 := List.mem_of_getElem? (i := 22) rfl
theorem d2_9 : decode prog_6_method_1_code 9 = .ok (.areturn, 1) := by decide +kernel
theorem ef2 (m : MethodId)  : entryFrame m #[] 0 = mkF m 0 #[] [] := by first | (simp [entryFrame, mkF, argsToLocals, Value.category]; done) | rfl
def Q2 (Z : State) (wv : Addr) (clv : Cell) (h0 : Heap) (n0 : Nat) (v : Option Value) (h : Heap) (L : List Loc) : Prop := ∃ (b : Addr), v = some (.ref b) ∧ Fr n0 L ∧ Keep h0 h [] ∧ h0.size ≤ b ∧ Arr Z h b (cloneOf clv) (.object "com/example/mooring/mooring/Change$Event")
theorem pn4 : plainName "com/example/mooring/mooring/Change$Event" = true := by first | (simp [plainName, overriddenIn]; done) | decide +kernel
theorem rm2 (l : Launch) (Z : State) (a0 : Array Value) (hw : ∀ d ∈ tables_1, d.before a0 Z = true) (ws : List Jvm.Cond) (wv : Addr) (clv : Cell) (h0 : Heap) (n0 : Nat) (Z0 : n0 ≤ h0.size) (O0 : Old Z n0 h0) (S_VALUES : Sta Z Z.heap "com/example/mooring/mooring/Change$Event" "$VALUES" "[Lcom/example/mooring/mooring/Change$Event;" (.ref wv)) (A_wv : Arr Z Z.heap wv clv (.object "com/example/mooring/mooring/Change$Event")) (E_wv : Exa Z Z.heap wv "[Lcom/example/mooring/mooring/Change$Event;") (FC : FitC Z clv) (Sv : clv.slots.size = (4 : Int32).toNatClampNeg) :
    Met l Z ws (⟨"com/example/mooring/mooring/Change$Event", "values", "()[Lcom/example/mooring/mooring/Change$Event;"⟩ : MethodName) prog_6_method_1_code 0 (some (.array (.object "com/example/mooring/mooring/Change$Event"))) (Rm 1 1 4 14) #[] h0 (Q2 Z wv clv h0 n0) := by
  refine Met.enter (L0 := #[]) (plainFor_of_name pn4) (fun m => ef2 m ) ?_
  intro p e s m below meth c s₁ hx hby hml hown hnm hret hlk hZ X0 e0
  have N0 := Fr.nil n0
  have K0 : Keep h0 h0 [] := Keep.refl h0 _
  obtain ⟨T1, X1, e1, st1⟩ := getS2 X0 hx hZ hown (host := "") (Or.inl (hw _ tw9)) Via.refl e0 (S_VALUES.ext O0.2) (g := (mkF m 0 #[] [])) rfl (hb hby d2_0)
  refine Go.st st1 ?_
  show Go _ _ _ _ _ _ _ (T1.setTop (mkF m 3 _ [(.ref wv)]))
  obtain ⟨T2, h2, X2, e2, E2, A2, B2, st2⟩ := cloneA X1 hx hZ hown (hw _ tw11) (hw _ tw12) (hw _ tw16) (hw _ tw14) (hw _ tw15) (hw _ tw17) e1 (A_wv.ext O0.2) (E_wv.ext O0.2) FC (g := (mkF m 3 #[] [(.ref wv)])) rfl (by rw [hml]; rfl) rfl (hb hby d2_3) (by decide) (W := 0) (cap := 4) (by show 2 * 0 + _ ≤ _; exact Nat.le_of_eq rfl) (by decide) (by rw [Sv]; decide) (by decide) (by decide)
  obtain ⟨b2, g2⟩ : ∃ z, z = h0.size := ⟨_, rfl⟩
  rw [← g2] at A2 B2 st2
  have lb3 : h0.size ≤ b2 := Nat.le_of_eq g2.symm
  have sz4 : h0.size ≤ b2 := Nat.le_trans K0.1 lb3
  have g5 : n0 ≤ b2 := Nat.le_trans Z0 sz4
  have K6 := K0.ext E2
  have O7 := O0.ext E2
  refine Go.st st2 ?_
  show Go _ _ _ _ _ _ _ (T2.setTop (mkF m 6 _ [(.ref b2)]))
  obtain ⟨T8, X8, e8, st8⟩ := castY X2 hx hZ hown (hw _ tw22) e2 (Ins.self B2) (g := (mkF m 6 #[] [(.ref b2)])) rfl rfl (hb hby d2_6)
  refine Go.st st8 ?_
  show Go _ _ _ _ _ _ _ (T8.setTop (mkF m 9 _ [(.ref b2)]))
  refine Go.ret X8 (v := some (.ref b2)) (fun h => by rw [hret] at h; cases h) hlk (fun fs hr => retR X8 hx hret rfl rfl (hb hby d2_9) hr) ?_ (by decide) (by decide)
  show Q2 Z wv clv h0 n0 _ T8.heap _
  rw [e8]
  exact ⟨b2, rfl, N0, K6, sz4, A2⟩
theorem d1_0 : decode prog_6_method_6_code 0 = .ok (.invokestatic 43, 3) := by decide +kernel
theorem tw6 : (Jvm.Cond.methodLink "com/example/mooring/mooring/Change$Event" (43 : Nat) ({ cls := "com/example/mooring/mooring/Change$Event", name := "values", desc := "()[Lcom/example/mooring/mooring/Change$Event;" } : Jvm.MethodName)) ∈ tables_1 := List.mem_of_getElem? (i := 6) rfl
theorem tw8 : (Jvm.Cond.code ({ cls := "com/example/mooring/mooring/Change$Event", name := "values", desc := "()[Lcom/example/mooring/mooring/Change$Event;" } : Jvm.MethodName) prog_6_method_1_code (0 : Nat) (Option.some (Jvm.ClassFile.FieldType.array (Jvm.ClassFile.FieldType.object "com/example/mooring/mooring/Change$Event")))) ∈ tables_1 := List.mem_of_getElem? (i := 8) rfl
theorem tw1 : (Jvm.Cond.initialized "com/example/mooring/mooring/Change$Event") ∈ tables_1 := List.mem_of_getElem? (i := 1) rfl
theorem pd0 : parseMethodDescriptor "()[Lcom/example/mooring/mooring/Change$Event;" = some ⟨[], some (.array (.object "com/example/mooring/mooring/Change$Event"))⟩ := by decide +kernel
theorem tw7 : (Jvm.Cond.static ({ cls := "com/example/mooring/mooring/Change$Event", name := "values", desc := "()[Lcom/example/mooring/mooring/Change$Event;" } : Jvm.MethodName)) ∈ tables_1 := List.mem_of_getElem? (i := 7) rfl
theorem d1_3 : decode prog_6_method_6_code 3 = .ok (.astore_n 1, 1) := by decide +kernel
theorem d1_4 : decode prog_6_method_6_code 4 = .ok (.aload_n 1, 1) := by decide +kernel
theorem d1_5 : decode prog_6_method_6_code 5 = .ok (.arraylength, 1) := by decide +kernel
theorem d1_6 : decode prog_6_method_6_code 6 = .ok (.istore_n 2, 1) := by decide +kernel
theorem d1_7 : decode prog_6_method_6_code 7 = .ok (.iconst 0, 1) := by decide +kernel
theorem d1_8 : decode prog_6_method_6_code 8 = .ok (.istore_n 3, 1) := by decide +kernel
theorem d1_9 : decode prog_6_method_6_code 9 = .ok (.iload_n 3, 1) := by decide +kernel
theorem d1_10 : decode prog_6_method_6_code 10 = .ok (.iload_n 2, 1) := by decide +kernel
theorem d1_11 : decode prog_6_method_6_code 11 = .ok (.if_icmp .ge 26, 3) := by decide +kernel
theorem d1_14 : decode prog_6_method_6_code 14 = .ok (.aload_n 1, 1) := by decide +kernel
theorem d1_15 : decode prog_6_method_6_code 15 = .ok (.iload_n 3, 1) := by decide +kernel
theorem d1_16 : decode prog_6_method_6_code 16 = .ok (.aaload, 1) := by decide +kernel
theorem d1_17 : decode prog_6_method_6_code 17 = .ok (.astore 4, 2) := by decide +kernel
theorem d1_19 : decode prog_6_method_6_code 19 = .ok (.aload 4, 2) := by decide +kernel
theorem d1_21 : decode prog_6_method_6_code 21 = .ok (.getfield 39, 3) := by decide +kernel
theorem tw24 : (Jvm.Cond.fieldLink "com/example/mooring/mooring/Change$Event" (39 : Nat) "com/example/mooring/mooring/Change$Event" "code" "B") ∈ tables_1 := List.mem_of_getElem? (i := 24) rfl
theorem d1_24 : decode prog_6_method_6_code 24 = .ok (.iload_n 0, 1) := by decide +kernel
theorem d1_25 : decode prog_6_method_6_code 25 = .ok (.if_icmp .ne 6, 3) := by decide +kernel
theorem d1_28 : decode prog_6_method_6_code 28 = .ok (.aload 4, 2) := by decide +kernel
theorem d1_30 : decode prog_6_method_6_code 30 = .ok (.areturn, 1) := by decide +kernel
theorem ef1_0 (m : MethodId)  : entryFrame m #[(.int 1)] 5 = mkF m 0 #[.val (.int 1), .unset, .unset, .unset, .unset] [] := by first | (simp [entryFrame, mkF, argsToLocals, Value.category]; done) | rfl
def Q1_0 (Z : State) (wv : Addr) (clv : Cell) (w0 : Addr) (w1 : Addr) (w2 : Addr) (w3 : Addr) (h0 : Heap) (n0 : Nat) (v : Option Value) (h : Heap) (L : List Loc) : Prop := v = some (.ref w0) ∧ Fr n0 L ∧ Keep h0 h []
theorem rm1_0 (l : Launch) (Z : State) (a0 : Array Value) (hw : ∀ d ∈ tables_1, d.before a0 Z = true) (ws : List Jvm.Cond) (wv : Addr) (clv : Cell) (w0 : Addr) (w1 : Addr) (w2 : Addr) (w3 : Addr) (h0 : Heap) (n0 : Nat) (Z0 : n0 ≤ h0.size) (O0 : Old Z n0 h0) (S_VALUES : Sta Z Z.heap "com/example/mooring/mooring/Change$Event" "$VALUES" "[Lcom/example/mooring/mooring/Change$Event;" (.ref wv)) (A_wv : Arr Z Z.heap wv clv (.object "com/example/mooring/mooring/Change$Event")) (E_wv : Exa Z Z.heap wv "[Lcom/example/mooring/mooring/Change$Event;") (FC : FitC Z clv) (Sv : clv.slots.size = (4 : Int32).toNatClampNeg) (Mv : ¬ (4 : Int32) < 0) (F_w0 : Fld Z Z.heap w0 "com/example/mooring/mooring/Change$Event" "code" "B" (.int 1)) (hin0 : ¬ ((0 : Int32) < 0 ∨ clv.slots.size ≤ ((0 : Int32)).toNatClampNeg)) (hat0 : clv.slots[((0 : Int32)).toNatClampNeg]? = some (.ref w0)) :
    Met l Z ws (⟨"com/example/mooring/mooring/Change$Event", "ofCode", "(B)Lcom/example/mooring/mooring/Change$Event;"⟩ : MethodName) prog_6_method_6_code 5 (some (.object "com/example/mooring/mooring/Change$Event")) (Rm 2 1 4 25) #[(.int 1)] h0 (Q1_0 Z wv clv w0 w1 w2 w3 h0 n0) := by
  refine Met.enter (L0 := #[.val (.int 1), .unset, .unset, .unset, .unset]) (plainFor_of_name pn4) (fun m => ef1_0 m ) ?_
  intro p e s m below meth c s₁ hx hby hml hown hnm hret hlk hZ X0 e0
  have N0 := Fr.nil n0
  have K0 : Keep h0 h0 [] := Keep.refl h0 _
  obtain ⟨_, _, ⟨T1, L1, k1, n1⟩, -, X1, ⟨Lc1, hQ1, l1, y1, z1⟩, st1⟩ := Jvm.LawKit.callS X0 hx (y := (⟨"com/example/mooring/mooring/Change$Event", "values", "()[Lcom/example/mooring/mooring/Change$Event;"⟩ : MethodName)) hown (mvT hZ (hw _ tw6)) (mvT hZ (hw _ tw7)) (mvT hZ (hw _ tw1)) (mvT hZ (hw _ tw8)) (by decide) (backOf (W := 0) (rm2 l Z a0 hw [] wv clv h0 n0 (Nat.le_trans Z0 K0.1) O0 S_VALUES A_wv E_wv FC Sv ) hZ (hw _ tw8) (hw _ tw1) (by decide) (by decide)) (g := (mkF m 0 #[.val (.int 1), .unset, .unset, .unset, .unset] [])) rfl (by rw [hml]; rfl) (argsL := []) (rest := []) (lenOf pd0 rfl) rfl (by show 2 * 0 + _ ≤ _; exact Nat.le_of_eq rfl) (hb hby d1_0) (fun _ _ => ⟨rfl, e0, (by decide : 0 + 1 ≤ _), (by decide : 0 + 4 ≤ _)⟩)
  dsimp only [Pt.U, Pt.locs, Pt.cells, Pt.slots] at X1 l1 y1 z1 st1 hQ1
  subst l1 y1 z1
  obtain ⟨b2, rfl, Nq1, Kq1, q3, q4⟩ := hQ1
  have N1 := Fr.app N0 Nq1
  have sz5 : h0.size ≤ b2 := Nat.le_trans K0.1 q3
  have g6 : n0 ≤ b2 := Nat.le_trans Z0 sz5
  have K7 := K0.trans Kq1 all0
  have O8 := O0.keep Kq1 all0
  refine Go.st st1 ?_
  show Go _ _ _ _ _ _ _ (T1.setTop (mkF m 3 _ [(.ref b2)]))
  refine Go.st (t' := T1.setTop (mkF m 21 #[.val (.int 1), .val (.ref b2), .val (.int 4), .val (.int 0), .val (.ref w0)] [(.ref w0)])) (fun target kt => ?_) ?_
  · refine XS.astoreN X1.here hx rfl (hb hby d1_3) rfl rfl (l' := #[.val (.int 1), .val (.ref b2), .unset, .unset, .unset]) rfl ?_
    show Steps p.tables e below (T1.setTop (mkF m 4 _ [])) target
    refine XS.aloadN X1.here hx rfl (hb hby d1_4) rfl rfl ?_
    show Steps p.tables e below (T1.setTop (mkF m 5 _ [(.ref b2)])) target
    refine X1.arraylength hx q4.1 (State.isArrayOf_alike hZ.alike q4.2.1) (g := (mkF m 5 #[.val (.int 1), .val (.ref b2), .unset, .unset, .unset] [(.ref b2)])) rfl rfl (hb hby d1_5) _ ?_
    rw [len_of Sv Mv]
    show Steps p.tables e below (T1.setTop (mkF m 6 _ [(.int 4)])) target
    refine XS.istoreN X1.here hx rfl (hb hby d1_6) rfl (l' := #[.val (.int 1), .val (.ref b2), .val (.int 4), .unset, .unset]) rfl ?_
    show Steps p.tables e below (T1.setTop (mkF m 7 _ [])) target
    refine XS.iconst X1.here hx rfl (hb hby d1_7) ?_
    show Steps p.tables e below (T1.setTop (mkF m 8 _ [(.int 0)])) target
    refine XS.istoreN X1.here hx rfl (hb hby d1_8) rfl (l' := #[.val (.int 1), .val (.ref b2), .val (.int 4), .val (.int 0), .unset]) rfl ?_
    show Steps p.tables e below (T1.setTop (mkF m 9 _ [])) target
    refine XS.iloadN X1.here hx rfl (hb hby d1_9) rfl ?_
    show Steps p.tables e below (T1.setTop (mkF m 10 _ [(.int 0)])) target
    refine XS.iloadN X1.here hx rfl (hb hby d1_10) rfl ?_
    show Steps p.tables e below (T1.setTop (mkF m 11 _ [(.int 4), (.int 0)])) target
    refine XS.icmpNo X1.here hx rfl (hb hby d1_11) rfl (tlt (by decide : (0 : Int32) < (4 : Int32))).2.1 ?_
    show Steps p.tables e below (T1.setTop (mkF m 14 _ [])) target
    refine XS.aloadN X1.here hx rfl (hb hby d1_14) rfl rfl ?_
    show Steps p.tables e below (T1.setTop (mkF m 15 _ [(.ref b2)])) target
    refine XS.iloadN X1.here hx rfl (hb hby d1_15) rfl ?_
    show Steps p.tables e below (T1.setTop (mkF m 16 _ [(.int 0), (.ref b2)])) target
    refine X1.aaload hx (j := (0 : Int32)) (v := (.ref w0)) q4.1 (State.isArrayOf_alike hZ.alike q4.2.1) rfl q4.2.2 hin0 hat0 (g := (mkF m 16 #[.val (.int 1), .val (.ref b2), .val (.int 4), .val (.int 0), .unset] [(.int 0), (.ref b2)])) rfl rfl (hb hby d1_16) _ ?_
    show Steps p.tables e below (T1.setTop (mkF m 17 _ [(.ref w0)])) target
    refine XS.astore X1.here hx rfl (hb hby d1_17) rfl rfl (l' := #[.val (.int 1), .val (.ref b2), .val (.int 4), .val (.int 0), .val (.ref w0)]) rfl ?_
    show Steps p.tables e below (T1.setTop (mkF m 19 _ [])) target
    refine XS.aload X1.here hx rfl (hb hby d1_19) rfl rfl ?_
    exact kt
  obtain ⟨T10, X10, e10, st10⟩ := getF X1 hx hZ hown (host := "") (Or.inl (hw _ tw24)) Via.refl rfl (F_w0.ext O8.2) (g := (mkF m 21 #[.val (.int 1), .val (.ref b2), .val (.int 4), .val (.int 0), .val (.ref w0)] [(.ref w0)])) rfl rfl (hb hby d1_21)
  refine Go.st st10 ?_
  show Go _ _ _ _ _ _ _ (T10.setTop (mkF m 24 _ [(.int 1)]))
  refine Go.st (t' := T10.setTop (mkF m 30 #[.val (.int 1), .val (.ref b2), .val (.int 4), .val (.int 0), .val (.ref w0)] [(.ref w0)])) (fun target kt => ?_) ?_
  · refine XS.iloadN X10.here hx rfl (hb hby d1_24) rfl ?_
    show Steps p.tables e below (T10.setTop (mkF m 25 _ [(.int 1), (.int 1)])) target
    refine XS.icmpNo X10.here hx rfl (hb hby d1_25) rfl (teq (by decide : (1 : Int32) = (1 : Int32))).2 ?_
    show Steps p.tables e below (T10.setTop (mkF m 28 _ [])) target
    refine XS.aload X10.here hx rfl (hb hby d1_28) rfl rfl ?_
    exact kt
  refine Go.ret X10 (v := some (.ref w0)) (fun h => by rw [hret] at h; cases h) hlk (fun fs hr => retR X10 hx hret rfl rfl (hb hby d1_30) hr) ?_ (by decide) (by decide)
  show Q1_0 Z wv clv w0 w1 w2 w3 h0 n0 _ T10.heap _
  rw [e10]
  exact ⟨rfl, N1, K7⟩
theorem d1_31 : decode prog_6_method_6_code 31 = .ok (.iinc 3 1, 3) := by decide +kernel
theorem d1_34 : decode prog_6_method_6_code 34 = .ok (.goto (-25), 3) := by decide +kernel
theorem ef1_1 (m : MethodId)  : entryFrame m #[(.int 2)] 5 = mkF m 0 #[.val (.int 2), .unset, .unset, .unset, .unset] [] := by first | (simp [entryFrame, mkF, argsToLocals, Value.category]; done) | rfl
def Q1_1 (Z : State) (wv : Addr) (clv : Cell) (w0 : Addr) (w1 : Addr) (w2 : Addr) (w3 : Addr) (h0 : Heap) (n0 : Nat) (v : Option Value) (h : Heap) (L : List Loc) : Prop := v = some (.ref w1) ∧ Fr n0 L ∧ Keep h0 h []
theorem rm1_1 (l : Launch) (Z : State) (a0 : Array Value) (hw : ∀ d ∈ tables_1, d.before a0 Z = true) (ws : List Jvm.Cond) (wv : Addr) (clv : Cell) (w0 : Addr) (w1 : Addr) (w2 : Addr) (w3 : Addr) (h0 : Heap) (n0 : Nat) (Z0 : n0 ≤ h0.size) (O0 : Old Z n0 h0) (S_VALUES : Sta Z Z.heap "com/example/mooring/mooring/Change$Event" "$VALUES" "[Lcom/example/mooring/mooring/Change$Event;" (.ref wv)) (A_wv : Arr Z Z.heap wv clv (.object "com/example/mooring/mooring/Change$Event")) (E_wv : Exa Z Z.heap wv "[Lcom/example/mooring/mooring/Change$Event;") (FC : FitC Z clv) (Sv : clv.slots.size = (4 : Int32).toNatClampNeg) (Mv : ¬ (4 : Int32) < 0) (F_w0 : Fld Z Z.heap w0 "com/example/mooring/mooring/Change$Event" "code" "B" (.int 1)) (hin0 : ¬ ((0 : Int32) < 0 ∨ clv.slots.size ≤ ((0 : Int32)).toNatClampNeg)) (hat0 : clv.slots[((0 : Int32)).toNatClampNeg]? = some (.ref w0)) (F_w1 : Fld Z Z.heap w1 "com/example/mooring/mooring/Change$Event" "code" "B" (.int 2)) (hin1 : ¬ ((1 : Int32) < 0 ∨ clv.slots.size ≤ ((1 : Int32)).toNatClampNeg)) (hat1 : clv.slots[((1 : Int32)).toNatClampNeg]? = some (.ref w1)) :
    Met l Z ws (⟨"com/example/mooring/mooring/Change$Event", "ofCode", "(B)Lcom/example/mooring/mooring/Change$Event;"⟩ : MethodName) prog_6_method_6_code 5 (some (.object "com/example/mooring/mooring/Change$Event")) (Rm 2 1 4 25) #[(.int 2)] h0 (Q1_1 Z wv clv w0 w1 w2 w3 h0 n0) := by
  refine Met.enter (L0 := #[.val (.int 2), .unset, .unset, .unset, .unset]) (plainFor_of_name pn4) (fun m => ef1_1 m ) ?_
  intro p e s m below meth c s₁ hx hby hml hown hnm hret hlk hZ X0 e0
  have N0 := Fr.nil n0
  have K0 : Keep h0 h0 [] := Keep.refl h0 _
  obtain ⟨_, _, ⟨T1, L1, k1, n1⟩, -, X1, ⟨Lc1, hQ1, l1, y1, z1⟩, st1⟩ := Jvm.LawKit.callS X0 hx (y := (⟨"com/example/mooring/mooring/Change$Event", "values", "()[Lcom/example/mooring/mooring/Change$Event;"⟩ : MethodName)) hown (mvT hZ (hw _ tw6)) (mvT hZ (hw _ tw7)) (mvT hZ (hw _ tw1)) (mvT hZ (hw _ tw8)) (by decide) (backOf (W := 0) (rm2 l Z a0 hw [] wv clv h0 n0 (Nat.le_trans Z0 K0.1) O0 S_VALUES A_wv E_wv FC Sv ) hZ (hw _ tw8) (hw _ tw1) (by decide) (by decide)) (g := (mkF m 0 #[.val (.int 2), .unset, .unset, .unset, .unset] [])) rfl (by rw [hml]; rfl) (argsL := []) (rest := []) (lenOf pd0 rfl) rfl (by show 2 * 0 + _ ≤ _; exact Nat.le_of_eq rfl) (hb hby d1_0) (fun _ _ => ⟨rfl, e0, (by decide : 0 + 1 ≤ _), (by decide : 0 + 4 ≤ _)⟩)
  dsimp only [Pt.U, Pt.locs, Pt.cells, Pt.slots] at X1 l1 y1 z1 st1 hQ1
  subst l1 y1 z1
  obtain ⟨b2, rfl, Nq1, Kq1, q3, q4⟩ := hQ1
  have N1 := Fr.app N0 Nq1
  have sz5 : h0.size ≤ b2 := Nat.le_trans K0.1 q3
  have g6 : n0 ≤ b2 := Nat.le_trans Z0 sz5
  have K7 := K0.trans Kq1 all0
  have O8 := O0.keep Kq1 all0
  refine Go.st st1 ?_
  show Go _ _ _ _ _ _ _ (T1.setTop (mkF m 3 _ [(.ref b2)]))
  refine Go.st (t' := T1.setTop (mkF m 21 #[.val (.int 2), .val (.ref b2), .val (.int 4), .val (.int 0), .val (.ref w0)] [(.ref w0)])) (fun target kt => ?_) ?_
  · refine XS.astoreN X1.here hx rfl (hb hby d1_3) rfl rfl (l' := #[.val (.int 2), .val (.ref b2), .unset, .unset, .unset]) rfl ?_
    show Steps p.tables e below (T1.setTop (mkF m 4 _ [])) target
    refine XS.aloadN X1.here hx rfl (hb hby d1_4) rfl rfl ?_
    show Steps p.tables e below (T1.setTop (mkF m 5 _ [(.ref b2)])) target
    refine X1.arraylength hx q4.1 (State.isArrayOf_alike hZ.alike q4.2.1) (g := (mkF m 5 #[.val (.int 2), .val (.ref b2), .unset, .unset, .unset] [(.ref b2)])) rfl rfl (hb hby d1_5) _ ?_
    rw [len_of Sv Mv]
    show Steps p.tables e below (T1.setTop (mkF m 6 _ [(.int 4)])) target
    refine XS.istoreN X1.here hx rfl (hb hby d1_6) rfl (l' := #[.val (.int 2), .val (.ref b2), .val (.int 4), .unset, .unset]) rfl ?_
    show Steps p.tables e below (T1.setTop (mkF m 7 _ [])) target
    refine XS.iconst X1.here hx rfl (hb hby d1_7) ?_
    show Steps p.tables e below (T1.setTop (mkF m 8 _ [(.int 0)])) target
    refine XS.istoreN X1.here hx rfl (hb hby d1_8) rfl (l' := #[.val (.int 2), .val (.ref b2), .val (.int 4), .val (.int 0), .unset]) rfl ?_
    show Steps p.tables e below (T1.setTop (mkF m 9 _ [])) target
    refine XS.iloadN X1.here hx rfl (hb hby d1_9) rfl ?_
    show Steps p.tables e below (T1.setTop (mkF m 10 _ [(.int 0)])) target
    refine XS.iloadN X1.here hx rfl (hb hby d1_10) rfl ?_
    show Steps p.tables e below (T1.setTop (mkF m 11 _ [(.int 4), (.int 0)])) target
    refine XS.icmpNo X1.here hx rfl (hb hby d1_11) rfl (tlt (by decide : (0 : Int32) < (4 : Int32))).2.1 ?_
    show Steps p.tables e below (T1.setTop (mkF m 14 _ [])) target
    refine XS.aloadN X1.here hx rfl (hb hby d1_14) rfl rfl ?_
    show Steps p.tables e below (T1.setTop (mkF m 15 _ [(.ref b2)])) target
    refine XS.iloadN X1.here hx rfl (hb hby d1_15) rfl ?_
    show Steps p.tables e below (T1.setTop (mkF m 16 _ [(.int 0), (.ref b2)])) target
    refine X1.aaload hx (j := (0 : Int32)) (v := (.ref w0)) q4.1 (State.isArrayOf_alike hZ.alike q4.2.1) rfl q4.2.2 hin0 hat0 (g := (mkF m 16 #[.val (.int 2), .val (.ref b2), .val (.int 4), .val (.int 0), .unset] [(.int 0), (.ref b2)])) rfl rfl (hb hby d1_16) _ ?_
    show Steps p.tables e below (T1.setTop (mkF m 17 _ [(.ref w0)])) target
    refine XS.astore X1.here hx rfl (hb hby d1_17) rfl rfl (l' := #[.val (.int 2), .val (.ref b2), .val (.int 4), .val (.int 0), .val (.ref w0)]) rfl ?_
    show Steps p.tables e below (T1.setTop (mkF m 19 _ [])) target
    refine XS.aload X1.here hx rfl (hb hby d1_19) rfl rfl ?_
    exact kt
  obtain ⟨T10, X10, e10, st10⟩ := getF X1 hx hZ hown (host := "") (Or.inl (hw _ tw24)) Via.refl rfl (F_w0.ext O8.2) (g := (mkF m 21 #[.val (.int 2), .val (.ref b2), .val (.int 4), .val (.int 0), .val (.ref w0)] [(.ref w0)])) rfl rfl (hb hby d1_21)
  refine Go.st st10 ?_
  show Go _ _ _ _ _ _ _ (T10.setTop (mkF m 24 _ [(.int 1)]))
  refine Go.st (t' := T10.setTop (mkF m 21 #[.val (.int 2), .val (.ref b2), .val (.int 4), .val (.int 1), .val (.ref w1)] [(.ref w1)])) (fun target kt => ?_) ?_
  · refine XS.iloadN X10.here hx rfl (hb hby d1_24) rfl ?_
    show Steps p.tables e below (T10.setTop (mkF m 25 _ [(.int 2), (.int 1)])) target
    refine XS.icmpYes X10.here hx rfl (pc0 := 25) (pc' := 31) rfl (hb hby d1_25) rfl (feq (by decide : ¬ ((1 : Int32) = (2 : Int32)))).2 (by decide) (by decide) ?_
    show Steps p.tables e below (T10.setTop (mkF m 31 _ [])) target
    refine XS.iinc X10.here hx rfl (hb hby d1_31) rfl (l' := #[.val (.int 2), .val (.ref b2), .val (.int 4), .val (.int 1), .val (.ref w0)]) rfl ?_
    show Steps p.tables e below (T10.setTop (mkF m 34 _ [])) target
    refine XS.goto X10.here hx rfl (pc0 := 34) (pc' := 9) rfl (hb hby d1_34) (by decide) (by decide) ?_
    show Steps p.tables e below (T10.setTop (mkF m 9 _ [])) target
    refine XS.iloadN X10.here hx rfl (hb hby d1_9) rfl ?_
    show Steps p.tables e below (T10.setTop (mkF m 10 _ [(.int 1)])) target
    refine XS.iloadN X10.here hx rfl (hb hby d1_10) rfl ?_
    show Steps p.tables e below (T10.setTop (mkF m 11 _ [(.int 4), (.int 1)])) target
    refine XS.icmpNo X10.here hx rfl (hb hby d1_11) rfl (tlt (by decide : (1 : Int32) < (4 : Int32))).2.1 ?_
    show Steps p.tables e below (T10.setTop (mkF m 14 _ [])) target
    refine XS.aloadN X10.here hx rfl (hb hby d1_14) rfl rfl ?_
    show Steps p.tables e below (T10.setTop (mkF m 15 _ [(.ref b2)])) target
    refine XS.iloadN X10.here hx rfl (hb hby d1_15) rfl ?_
    show Steps p.tables e below (T10.setTop (mkF m 16 _ [(.int 1), (.ref b2)])) target
    refine X10.aaload hx (j := (1 : Int32)) (v := (.ref w1)) (by rw [e10]; exact q4.1) (State.isArrayOf_alike hZ.alike q4.2.1) rfl q4.2.2 hin1 hat1 (g := (mkF m 16 #[.val (.int 2), .val (.ref b2), .val (.int 4), .val (.int 1), .val (.ref w0)] [(.int 1), (.ref b2)])) rfl rfl (hb hby d1_16) _ ?_
    show Steps p.tables e below (T10.setTop (mkF m 17 _ [(.ref w1)])) target
    refine XS.astore X10.here hx rfl (hb hby d1_17) rfl rfl (l' := #[.val (.int 2), .val (.ref b2), .val (.int 4), .val (.int 1), .val (.ref w1)]) rfl ?_
    show Steps p.tables e below (T10.setTop (mkF m 19 _ [])) target
    refine XS.aload X10.here hx rfl (hb hby d1_19) rfl rfl ?_
    exact kt
  obtain ⟨T11, X11, e11, st11⟩ := getF X10 hx hZ hown (host := "") (Or.inl (hw _ tw24)) Via.refl e10 (F_w1.ext O8.2) (g := (mkF m 21 #[.val (.int 2), .val (.ref b2), .val (.int 4), .val (.int 1), .val (.ref w1)] [(.ref w1)])) rfl rfl (hb hby d1_21)
  refine Go.st st11 ?_
  show Go _ _ _ _ _ _ _ (T11.setTop (mkF m 24 _ [(.int 2)]))
  refine Go.st (t' := T11.setTop (mkF m 30 #[.val (.int 2), .val (.ref b2), .val (.int 4), .val (.int 1), .val (.ref w1)] [(.ref w1)])) (fun target kt => ?_) ?_
  · refine XS.iloadN X11.here hx rfl (hb hby d1_24) rfl ?_
    show Steps p.tables e below (T11.setTop (mkF m 25 _ [(.int 2), (.int 2)])) target
    refine XS.icmpNo X11.here hx rfl (hb hby d1_25) rfl (teq (by decide : (2 : Int32) = (2 : Int32))).2 ?_
    show Steps p.tables e below (T11.setTop (mkF m 28 _ [])) target
    refine XS.aload X11.here hx rfl (hb hby d1_28) rfl rfl ?_
    exact kt
  refine Go.ret X11 (v := some (.ref w1)) (fun h => by rw [hret] at h; cases h) hlk (fun fs hr => retR X11 hx hret rfl rfl (hb hby d1_30) hr) ?_ (by decide) (by decide)
  show Q1_1 Z wv clv w0 w1 w2 w3 h0 n0 _ T11.heap _
  rw [e11]
  exact ⟨rfl, N1, K7⟩
theorem ef1_2 (m : MethodId)  : entryFrame m #[(.int 3)] 5 = mkF m 0 #[.val (.int 3), .unset, .unset, .unset, .unset] [] := by first | (simp [entryFrame, mkF, argsToLocals, Value.category]; done) | rfl
def Q1_2 (Z : State) (wv : Addr) (clv : Cell) (w0 : Addr) (w1 : Addr) (w2 : Addr) (w3 : Addr) (h0 : Heap) (n0 : Nat) (v : Option Value) (h : Heap) (L : List Loc) : Prop := v = some (.ref w2) ∧ Fr n0 L ∧ Keep h0 h []
theorem rm1_2 (l : Launch) (Z : State) (a0 : Array Value) (hw : ∀ d ∈ tables_1, d.before a0 Z = true) (ws : List Jvm.Cond) (wv : Addr) (clv : Cell) (w0 : Addr) (w1 : Addr) (w2 : Addr) (w3 : Addr) (h0 : Heap) (n0 : Nat) (Z0 : n0 ≤ h0.size) (O0 : Old Z n0 h0) (S_VALUES : Sta Z Z.heap "com/example/mooring/mooring/Change$Event" "$VALUES" "[Lcom/example/mooring/mooring/Change$Event;" (.ref wv)) (A_wv : Arr Z Z.heap wv clv (.object "com/example/mooring/mooring/Change$Event")) (E_wv : Exa Z Z.heap wv "[Lcom/example/mooring/mooring/Change$Event;") (FC : FitC Z clv) (Sv : clv.slots.size = (4 : Int32).toNatClampNeg) (Mv : ¬ (4 : Int32) < 0) (F_w0 : Fld Z Z.heap w0 "com/example/mooring/mooring/Change$Event" "code" "B" (.int 1)) (hin0 : ¬ ((0 : Int32) < 0 ∨ clv.slots.size ≤ ((0 : Int32)).toNatClampNeg)) (hat0 : clv.slots[((0 : Int32)).toNatClampNeg]? = some (.ref w0)) (F_w1 : Fld Z Z.heap w1 "com/example/mooring/mooring/Change$Event" "code" "B" (.int 2)) (hin1 : ¬ ((1 : Int32) < 0 ∨ clv.slots.size ≤ ((1 : Int32)).toNatClampNeg)) (hat1 : clv.slots[((1 : Int32)).toNatClampNeg]? = some (.ref w1)) (F_w2 : Fld Z Z.heap w2 "com/example/mooring/mooring/Change$Event" "code" "B" (.int 3)) (hin2 : ¬ ((2 : Int32) < 0 ∨ clv.slots.size ≤ ((2 : Int32)).toNatClampNeg)) (hat2 : clv.slots[((2 : Int32)).toNatClampNeg]? = some (.ref w2)) :
    Met l Z ws (⟨"com/example/mooring/mooring/Change$Event", "ofCode", "(B)Lcom/example/mooring/mooring/Change$Event;"⟩ : MethodName) prog_6_method_6_code 5 (some (.object "com/example/mooring/mooring/Change$Event")) (Rm 2 1 4 25) #[(.int 3)] h0 (Q1_2 Z wv clv w0 w1 w2 w3 h0 n0) := by
  refine Met.enter (L0 := #[.val (.int 3), .unset, .unset, .unset, .unset]) (plainFor_of_name pn4) (fun m => ef1_2 m ) ?_
  intro p e s m below meth c s₁ hx hby hml hown hnm hret hlk hZ X0 e0
  have N0 := Fr.nil n0
  have K0 : Keep h0 h0 [] := Keep.refl h0 _
  obtain ⟨_, _, ⟨T1, L1, k1, n1⟩, -, X1, ⟨Lc1, hQ1, l1, y1, z1⟩, st1⟩ := Jvm.LawKit.callS X0 hx (y := (⟨"com/example/mooring/mooring/Change$Event", "values", "()[Lcom/example/mooring/mooring/Change$Event;"⟩ : MethodName)) hown (mvT hZ (hw _ tw6)) (mvT hZ (hw _ tw7)) (mvT hZ (hw _ tw1)) (mvT hZ (hw _ tw8)) (by decide) (backOf (W := 0) (rm2 l Z a0 hw [] wv clv h0 n0 (Nat.le_trans Z0 K0.1) O0 S_VALUES A_wv E_wv FC Sv ) hZ (hw _ tw8) (hw _ tw1) (by decide) (by decide)) (g := (mkF m 0 #[.val (.int 3), .unset, .unset, .unset, .unset] [])) rfl (by rw [hml]; rfl) (argsL := []) (rest := []) (lenOf pd0 rfl) rfl (by show 2 * 0 + _ ≤ _; exact Nat.le_of_eq rfl) (hb hby d1_0) (fun _ _ => ⟨rfl, e0, (by decide : 0 + 1 ≤ _), (by decide : 0 + 4 ≤ _)⟩)
  dsimp only [Pt.U, Pt.locs, Pt.cells, Pt.slots] at X1 l1 y1 z1 st1 hQ1
  subst l1 y1 z1
  obtain ⟨b2, rfl, Nq1, Kq1, q3, q4⟩ := hQ1
  have N1 := Fr.app N0 Nq1
  have sz5 : h0.size ≤ b2 := Nat.le_trans K0.1 q3
  have g6 : n0 ≤ b2 := Nat.le_trans Z0 sz5
  have K7 := K0.trans Kq1 all0
  have O8 := O0.keep Kq1 all0
  refine Go.st st1 ?_
  show Go _ _ _ _ _ _ _ (T1.setTop (mkF m 3 _ [(.ref b2)]))
  refine Go.st (t' := T1.setTop (mkF m 21 #[.val (.int 3), .val (.ref b2), .val (.int 4), .val (.int 0), .val (.ref w0)] [(.ref w0)])) (fun target kt => ?_) ?_
  · refine XS.astoreN X1.here hx rfl (hb hby d1_3) rfl rfl (l' := #[.val (.int 3), .val (.ref b2), .unset, .unset, .unset]) rfl ?_
    show Steps p.tables e below (T1.setTop (mkF m 4 _ [])) target
    refine XS.aloadN X1.here hx rfl (hb hby d1_4) rfl rfl ?_
    show Steps p.tables e below (T1.setTop (mkF m 5 _ [(.ref b2)])) target
    refine X1.arraylength hx q4.1 (State.isArrayOf_alike hZ.alike q4.2.1) (g := (mkF m 5 #[.val (.int 3), .val (.ref b2), .unset, .unset, .unset] [(.ref b2)])) rfl rfl (hb hby d1_5) _ ?_
    rw [len_of Sv Mv]
    show Steps p.tables e below (T1.setTop (mkF m 6 _ [(.int 4)])) target
    refine XS.istoreN X1.here hx rfl (hb hby d1_6) rfl (l' := #[.val (.int 3), .val (.ref b2), .val (.int 4), .unset, .unset]) rfl ?_
    show Steps p.tables e below (T1.setTop (mkF m 7 _ [])) target
    refine XS.iconst X1.here hx rfl (hb hby d1_7) ?_
    show Steps p.tables e below (T1.setTop (mkF m 8 _ [(.int 0)])) target
    refine XS.istoreN X1.here hx rfl (hb hby d1_8) rfl (l' := #[.val (.int 3), .val (.ref b2), .val (.int 4), .val (.int 0), .unset]) rfl ?_
    show Steps p.tables e below (T1.setTop (mkF m 9 _ [])) target
    refine XS.iloadN X1.here hx rfl (hb hby d1_9) rfl ?_
    show Steps p.tables e below (T1.setTop (mkF m 10 _ [(.int 0)])) target
    refine XS.iloadN X1.here hx rfl (hb hby d1_10) rfl ?_
    show Steps p.tables e below (T1.setTop (mkF m 11 _ [(.int 4), (.int 0)])) target
    refine XS.icmpNo X1.here hx rfl (hb hby d1_11) rfl (tlt (by decide : (0 : Int32) < (4 : Int32))).2.1 ?_
    show Steps p.tables e below (T1.setTop (mkF m 14 _ [])) target
    refine XS.aloadN X1.here hx rfl (hb hby d1_14) rfl rfl ?_
    show Steps p.tables e below (T1.setTop (mkF m 15 _ [(.ref b2)])) target
    refine XS.iloadN X1.here hx rfl (hb hby d1_15) rfl ?_
    show Steps p.tables e below (T1.setTop (mkF m 16 _ [(.int 0), (.ref b2)])) target
    refine X1.aaload hx (j := (0 : Int32)) (v := (.ref w0)) q4.1 (State.isArrayOf_alike hZ.alike q4.2.1) rfl q4.2.2 hin0 hat0 (g := (mkF m 16 #[.val (.int 3), .val (.ref b2), .val (.int 4), .val (.int 0), .unset] [(.int 0), (.ref b2)])) rfl rfl (hb hby d1_16) _ ?_
    show Steps p.tables e below (T1.setTop (mkF m 17 _ [(.ref w0)])) target
    refine XS.astore X1.here hx rfl (hb hby d1_17) rfl rfl (l' := #[.val (.int 3), .val (.ref b2), .val (.int 4), .val (.int 0), .val (.ref w0)]) rfl ?_
    show Steps p.tables e below (T1.setTop (mkF m 19 _ [])) target
    refine XS.aload X1.here hx rfl (hb hby d1_19) rfl rfl ?_
    exact kt
  obtain ⟨T10, X10, e10, st10⟩ := getF X1 hx hZ hown (host := "") (Or.inl (hw _ tw24)) Via.refl rfl (F_w0.ext O8.2) (g := (mkF m 21 #[.val (.int 3), .val (.ref b2), .val (.int 4), .val (.int 0), .val (.ref w0)] [(.ref w0)])) rfl rfl (hb hby d1_21)
  refine Go.st st10 ?_
  show Go _ _ _ _ _ _ _ (T10.setTop (mkF m 24 _ [(.int 1)]))
  refine Go.st (t' := T10.setTop (mkF m 21 #[.val (.int 3), .val (.ref b2), .val (.int 4), .val (.int 1), .val (.ref w1)] [(.ref w1)])) (fun target kt => ?_) ?_
  · refine XS.iloadN X10.here hx rfl (hb hby d1_24) rfl ?_
    show Steps p.tables e below (T10.setTop (mkF m 25 _ [(.int 3), (.int 1)])) target
    refine XS.icmpYes X10.here hx rfl (pc0 := 25) (pc' := 31) rfl (hb hby d1_25) rfl (feq (by decide : ¬ ((1 : Int32) = (3 : Int32)))).2 (by decide) (by decide) ?_
    show Steps p.tables e below (T10.setTop (mkF m 31 _ [])) target
    refine XS.iinc X10.here hx rfl (hb hby d1_31) rfl (l' := #[.val (.int 3), .val (.ref b2), .val (.int 4), .val (.int 1), .val (.ref w0)]) rfl ?_
    show Steps p.tables e below (T10.setTop (mkF m 34 _ [])) target
    refine XS.goto X10.here hx rfl (pc0 := 34) (pc' := 9) rfl (hb hby d1_34) (by decide) (by decide) ?_
    show Steps p.tables e below (T10.setTop (mkF m 9 _ [])) target
    refine XS.iloadN X10.here hx rfl (hb hby d1_9) rfl ?_
    show Steps p.tables e below (T10.setTop (mkF m 10 _ [(.int 1)])) target
    refine XS.iloadN X10.here hx rfl (hb hby d1_10) rfl ?_
    show Steps p.tables e below (T10.setTop (mkF m 11 _ [(.int 4), (.int 1)])) target
    refine XS.icmpNo X10.here hx rfl (hb hby d1_11) rfl (tlt (by decide : (1 : Int32) < (4 : Int32))).2.1 ?_
    show Steps p.tables e below (T10.setTop (mkF m 14 _ [])) target
    refine XS.aloadN X10.here hx rfl (hb hby d1_14) rfl rfl ?_
    show Steps p.tables e below (T10.setTop (mkF m 15 _ [(.ref b2)])) target
    refine XS.iloadN X10.here hx rfl (hb hby d1_15) rfl ?_
    show Steps p.tables e below (T10.setTop (mkF m 16 _ [(.int 1), (.ref b2)])) target
    refine X10.aaload hx (j := (1 : Int32)) (v := (.ref w1)) (by rw [e10]; exact q4.1) (State.isArrayOf_alike hZ.alike q4.2.1) rfl q4.2.2 hin1 hat1 (g := (mkF m 16 #[.val (.int 3), .val (.ref b2), .val (.int 4), .val (.int 1), .val (.ref w0)] [(.int 1), (.ref b2)])) rfl rfl (hb hby d1_16) _ ?_
    show Steps p.tables e below (T10.setTop (mkF m 17 _ [(.ref w1)])) target
    refine XS.astore X10.here hx rfl (hb hby d1_17) rfl rfl (l' := #[.val (.int 3), .val (.ref b2), .val (.int 4), .val (.int 1), .val (.ref w1)]) rfl ?_
    show Steps p.tables e below (T10.setTop (mkF m 19 _ [])) target
    refine XS.aload X10.here hx rfl (hb hby d1_19) rfl rfl ?_
    exact kt
  obtain ⟨T11, X11, e11, st11⟩ := getF X10 hx hZ hown (host := "") (Or.inl (hw _ tw24)) Via.refl e10 (F_w1.ext O8.2) (g := (mkF m 21 #[.val (.int 3), .val (.ref b2), .val (.int 4), .val (.int 1), .val (.ref w1)] [(.ref w1)])) rfl rfl (hb hby d1_21)
  refine Go.st st11 ?_
  show Go _ _ _ _ _ _ _ (T11.setTop (mkF m 24 _ [(.int 2)]))
  refine Go.st (t' := T11.setTop (mkF m 21 #[.val (.int 3), .val (.ref b2), .val (.int 4), .val (.int 2), .val (.ref w2)] [(.ref w2)])) (fun target kt => ?_) ?_
  · refine XS.iloadN X11.here hx rfl (hb hby d1_24) rfl ?_
    show Steps p.tables e below (T11.setTop (mkF m 25 _ [(.int 3), (.int 2)])) target
    refine XS.icmpYes X11.here hx rfl (pc0 := 25) (pc' := 31) rfl (hb hby d1_25) rfl (feq (by decide : ¬ ((2 : Int32) = (3 : Int32)))).2 (by decide) (by decide) ?_
    show Steps p.tables e below (T11.setTop (mkF m 31 _ [])) target
    refine XS.iinc X11.here hx rfl (hb hby d1_31) rfl (l' := #[.val (.int 3), .val (.ref b2), .val (.int 4), .val (.int 2), .val (.ref w1)]) rfl ?_
    show Steps p.tables e below (T11.setTop (mkF m 34 _ [])) target
    refine XS.goto X11.here hx rfl (pc0 := 34) (pc' := 9) rfl (hb hby d1_34) (by decide) (by decide) ?_
    show Steps p.tables e below (T11.setTop (mkF m 9 _ [])) target
    refine XS.iloadN X11.here hx rfl (hb hby d1_9) rfl ?_
    show Steps p.tables e below (T11.setTop (mkF m 10 _ [(.int 2)])) target
    refine XS.iloadN X11.here hx rfl (hb hby d1_10) rfl ?_
    show Steps p.tables e below (T11.setTop (mkF m 11 _ [(.int 4), (.int 2)])) target
    refine XS.icmpNo X11.here hx rfl (hb hby d1_11) rfl (tlt (by decide : (2 : Int32) < (4 : Int32))).2.1 ?_
    show Steps p.tables e below (T11.setTop (mkF m 14 _ [])) target
    refine XS.aloadN X11.here hx rfl (hb hby d1_14) rfl rfl ?_
    show Steps p.tables e below (T11.setTop (mkF m 15 _ [(.ref b2)])) target
    refine XS.iloadN X11.here hx rfl (hb hby d1_15) rfl ?_
    show Steps p.tables e below (T11.setTop (mkF m 16 _ [(.int 2), (.ref b2)])) target
    refine X11.aaload hx (j := (2 : Int32)) (v := (.ref w2)) (by rw [e11]; exact q4.1) (State.isArrayOf_alike hZ.alike q4.2.1) rfl q4.2.2 hin2 hat2 (g := (mkF m 16 #[.val (.int 3), .val (.ref b2), .val (.int 4), .val (.int 2), .val (.ref w1)] [(.int 2), (.ref b2)])) rfl rfl (hb hby d1_16) _ ?_
    show Steps p.tables e below (T11.setTop (mkF m 17 _ [(.ref w2)])) target
    refine XS.astore X11.here hx rfl (hb hby d1_17) rfl rfl (l' := #[.val (.int 3), .val (.ref b2), .val (.int 4), .val (.int 2), .val (.ref w2)]) rfl ?_
    show Steps p.tables e below (T11.setTop (mkF m 19 _ [])) target
    refine XS.aload X11.here hx rfl (hb hby d1_19) rfl rfl ?_
    exact kt
  obtain ⟨T12, X12, e12, st12⟩ := getF X11 hx hZ hown (host := "") (Or.inl (hw _ tw24)) Via.refl e11 (F_w2.ext O8.2) (g := (mkF m 21 #[.val (.int 3), .val (.ref b2), .val (.int 4), .val (.int 2), .val (.ref w2)] [(.ref w2)])) rfl rfl (hb hby d1_21)
  refine Go.st st12 ?_
  show Go _ _ _ _ _ _ _ (T12.setTop (mkF m 24 _ [(.int 3)]))
  refine Go.st (t' := T12.setTop (mkF m 30 #[.val (.int 3), .val (.ref b2), .val (.int 4), .val (.int 2), .val (.ref w2)] [(.ref w2)])) (fun target kt => ?_) ?_
  · refine XS.iloadN X12.here hx rfl (hb hby d1_24) rfl ?_
    show Steps p.tables e below (T12.setTop (mkF m 25 _ [(.int 3), (.int 3)])) target
    refine XS.icmpNo X12.here hx rfl (hb hby d1_25) rfl (teq (by decide : (3 : Int32) = (3 : Int32))).2 ?_
    show Steps p.tables e below (T12.setTop (mkF m 28 _ [])) target
    refine XS.aload X12.here hx rfl (hb hby d1_28) rfl rfl ?_
    exact kt
  refine Go.ret X12 (v := some (.ref w2)) (fun h => by rw [hret] at h; cases h) hlk (fun fs hr => retR X12 hx hret rfl rfl (hb hby d1_30) hr) ?_ (by decide) (by decide)
  show Q1_2 Z wv clv w0 w1 w2 w3 h0 n0 _ T12.heap _
  rw [e12]
  exact ⟨rfl, N1, K7⟩
theorem ef1_3 (m : MethodId)  : entryFrame m #[(.int 4)] 5 = mkF m 0 #[.val (.int 4), .unset, .unset, .unset, .unset] [] := by first | (simp [entryFrame, mkF, argsToLocals, Value.category]; done) | rfl
def Q1_3 (Z : State) (wv : Addr) (clv : Cell) (w0 : Addr) (w1 : Addr) (w2 : Addr) (w3 : Addr) (h0 : Heap) (n0 : Nat) (v : Option Value) (h : Heap) (L : List Loc) : Prop := v = some (.ref w3) ∧ Fr n0 L ∧ Keep h0 h []
theorem rm1_3 (l : Launch) (Z : State) (a0 : Array Value) (hw : ∀ d ∈ tables_1, d.before a0 Z = true) (ws : List Jvm.Cond) (wv : Addr) (clv : Cell) (w0 : Addr) (w1 : Addr) (w2 : Addr) (w3 : Addr) (h0 : Heap) (n0 : Nat) (Z0 : n0 ≤ h0.size) (O0 : Old Z n0 h0) (S_VALUES : Sta Z Z.heap "com/example/mooring/mooring/Change$Event" "$VALUES" "[Lcom/example/mooring/mooring/Change$Event;" (.ref wv)) (A_wv : Arr Z Z.heap wv clv (.object "com/example/mooring/mooring/Change$Event")) (E_wv : Exa Z Z.heap wv "[Lcom/example/mooring/mooring/Change$Event;") (FC : FitC Z clv) (Sv : clv.slots.size = (4 : Int32).toNatClampNeg) (Mv : ¬ (4 : Int32) < 0) (F_w0 : Fld Z Z.heap w0 "com/example/mooring/mooring/Change$Event" "code" "B" (.int 1)) (hin0 : ¬ ((0 : Int32) < 0 ∨ clv.slots.size ≤ ((0 : Int32)).toNatClampNeg)) (hat0 : clv.slots[((0 : Int32)).toNatClampNeg]? = some (.ref w0)) (F_w1 : Fld Z Z.heap w1 "com/example/mooring/mooring/Change$Event" "code" "B" (.int 2)) (hin1 : ¬ ((1 : Int32) < 0 ∨ clv.slots.size ≤ ((1 : Int32)).toNatClampNeg)) (hat1 : clv.slots[((1 : Int32)).toNatClampNeg]? = some (.ref w1)) (F_w2 : Fld Z Z.heap w2 "com/example/mooring/mooring/Change$Event" "code" "B" (.int 3)) (hin2 : ¬ ((2 : Int32) < 0 ∨ clv.slots.size ≤ ((2 : Int32)).toNatClampNeg)) (hat2 : clv.slots[((2 : Int32)).toNatClampNeg]? = some (.ref w2)) (F_w3 : Fld Z Z.heap w3 "com/example/mooring/mooring/Change$Event" "code" "B" (.int 4)) (hin3 : ¬ ((3 : Int32) < 0 ∨ clv.slots.size ≤ ((3 : Int32)).toNatClampNeg)) (hat3 : clv.slots[((3 : Int32)).toNatClampNeg]? = some (.ref w3)) :
    Met l Z ws (⟨"com/example/mooring/mooring/Change$Event", "ofCode", "(B)Lcom/example/mooring/mooring/Change$Event;"⟩ : MethodName) prog_6_method_6_code 5 (some (.object "com/example/mooring/mooring/Change$Event")) (Rm 2 1 4 25) #[(.int 4)] h0 (Q1_3 Z wv clv w0 w1 w2 w3 h0 n0) := by
  refine Met.enter (L0 := #[.val (.int 4), .unset, .unset, .unset, .unset]) (plainFor_of_name pn4) (fun m => ef1_3 m ) ?_
  intro p e s m below meth c s₁ hx hby hml hown hnm hret hlk hZ X0 e0
  have N0 := Fr.nil n0
  have K0 : Keep h0 h0 [] := Keep.refl h0 _
  obtain ⟨_, _, ⟨T1, L1, k1, n1⟩, -, X1, ⟨Lc1, hQ1, l1, y1, z1⟩, st1⟩ := Jvm.LawKit.callS X0 hx (y := (⟨"com/example/mooring/mooring/Change$Event", "values", "()[Lcom/example/mooring/mooring/Change$Event;"⟩ : MethodName)) hown (mvT hZ (hw _ tw6)) (mvT hZ (hw _ tw7)) (mvT hZ (hw _ tw1)) (mvT hZ (hw _ tw8)) (by decide) (backOf (W := 0) (rm2 l Z a0 hw [] wv clv h0 n0 (Nat.le_trans Z0 K0.1) O0 S_VALUES A_wv E_wv FC Sv ) hZ (hw _ tw8) (hw _ tw1) (by decide) (by decide)) (g := (mkF m 0 #[.val (.int 4), .unset, .unset, .unset, .unset] [])) rfl (by rw [hml]; rfl) (argsL := []) (rest := []) (lenOf pd0 rfl) rfl (by show 2 * 0 + _ ≤ _; exact Nat.le_of_eq rfl) (hb hby d1_0) (fun _ _ => ⟨rfl, e0, (by decide : 0 + 1 ≤ _), (by decide : 0 + 4 ≤ _)⟩)
  dsimp only [Pt.U, Pt.locs, Pt.cells, Pt.slots] at X1 l1 y1 z1 st1 hQ1
  subst l1 y1 z1
  obtain ⟨b2, rfl, Nq1, Kq1, q3, q4⟩ := hQ1
  have N1 := Fr.app N0 Nq1
  have sz5 : h0.size ≤ b2 := Nat.le_trans K0.1 q3
  have g6 : n0 ≤ b2 := Nat.le_trans Z0 sz5
  have K7 := K0.trans Kq1 all0
  have O8 := O0.keep Kq1 all0
  refine Go.st st1 ?_
  show Go _ _ _ _ _ _ _ (T1.setTop (mkF m 3 _ [(.ref b2)]))
  refine Go.st (t' := T1.setTop (mkF m 21 #[.val (.int 4), .val (.ref b2), .val (.int 4), .val (.int 0), .val (.ref w0)] [(.ref w0)])) (fun target kt => ?_) ?_
  · refine XS.astoreN X1.here hx rfl (hb hby d1_3) rfl rfl (l' := #[.val (.int 4), .val (.ref b2), .unset, .unset, .unset]) rfl ?_
    show Steps p.tables e below (T1.setTop (mkF m 4 _ [])) target
    refine XS.aloadN X1.here hx rfl (hb hby d1_4) rfl rfl ?_
    show Steps p.tables e below (T1.setTop (mkF m 5 _ [(.ref b2)])) target
    refine X1.arraylength hx q4.1 (State.isArrayOf_alike hZ.alike q4.2.1) (g := (mkF m 5 #[.val (.int 4), .val (.ref b2), .unset, .unset, .unset] [(.ref b2)])) rfl rfl (hb hby d1_5) _ ?_
    rw [len_of Sv Mv]
    show Steps p.tables e below (T1.setTop (mkF m 6 _ [(.int 4)])) target
    refine XS.istoreN X1.here hx rfl (hb hby d1_6) rfl (l' := #[.val (.int 4), .val (.ref b2), .val (.int 4), .unset, .unset]) rfl ?_
    show Steps p.tables e below (T1.setTop (mkF m 7 _ [])) target
    refine XS.iconst X1.here hx rfl (hb hby d1_7) ?_
    show Steps p.tables e below (T1.setTop (mkF m 8 _ [(.int 0)])) target
    refine XS.istoreN X1.here hx rfl (hb hby d1_8) rfl (l' := #[.val (.int 4), .val (.ref b2), .val (.int 4), .val (.int 0), .unset]) rfl ?_
    show Steps p.tables e below (T1.setTop (mkF m 9 _ [])) target
    refine XS.iloadN X1.here hx rfl (hb hby d1_9) rfl ?_
    show Steps p.tables e below (T1.setTop (mkF m 10 _ [(.int 0)])) target
    refine XS.iloadN X1.here hx rfl (hb hby d1_10) rfl ?_
    show Steps p.tables e below (T1.setTop (mkF m 11 _ [(.int 4), (.int 0)])) target
    refine XS.icmpNo X1.here hx rfl (hb hby d1_11) rfl (tlt (by decide : (0 : Int32) < (4 : Int32))).2.1 ?_
    show Steps p.tables e below (T1.setTop (mkF m 14 _ [])) target
    refine XS.aloadN X1.here hx rfl (hb hby d1_14) rfl rfl ?_
    show Steps p.tables e below (T1.setTop (mkF m 15 _ [(.ref b2)])) target
    refine XS.iloadN X1.here hx rfl (hb hby d1_15) rfl ?_
    show Steps p.tables e below (T1.setTop (mkF m 16 _ [(.int 0), (.ref b2)])) target
    refine X1.aaload hx (j := (0 : Int32)) (v := (.ref w0)) q4.1 (State.isArrayOf_alike hZ.alike q4.2.1) rfl q4.2.2 hin0 hat0 (g := (mkF m 16 #[.val (.int 4), .val (.ref b2), .val (.int 4), .val (.int 0), .unset] [(.int 0), (.ref b2)])) rfl rfl (hb hby d1_16) _ ?_
    show Steps p.tables e below (T1.setTop (mkF m 17 _ [(.ref w0)])) target
    refine XS.astore X1.here hx rfl (hb hby d1_17) rfl rfl (l' := #[.val (.int 4), .val (.ref b2), .val (.int 4), .val (.int 0), .val (.ref w0)]) rfl ?_
    show Steps p.tables e below (T1.setTop (mkF m 19 _ [])) target
    refine XS.aload X1.here hx rfl (hb hby d1_19) rfl rfl ?_
    exact kt
  obtain ⟨T10, X10, e10, st10⟩ := getF X1 hx hZ hown (host := "") (Or.inl (hw _ tw24)) Via.refl rfl (F_w0.ext O8.2) (g := (mkF m 21 #[.val (.int 4), .val (.ref b2), .val (.int 4), .val (.int 0), .val (.ref w0)] [(.ref w0)])) rfl rfl (hb hby d1_21)
  refine Go.st st10 ?_
  show Go _ _ _ _ _ _ _ (T10.setTop (mkF m 24 _ [(.int 1)]))
  refine Go.st (t' := T10.setTop (mkF m 21 #[.val (.int 4), .val (.ref b2), .val (.int 4), .val (.int 1), .val (.ref w1)] [(.ref w1)])) (fun target kt => ?_) ?_
  · refine XS.iloadN X10.here hx rfl (hb hby d1_24) rfl ?_
    show Steps p.tables e below (T10.setTop (mkF m 25 _ [(.int 4), (.int 1)])) target
    refine XS.icmpYes X10.here hx rfl (pc0 := 25) (pc' := 31) rfl (hb hby d1_25) rfl (feq (by decide : ¬ ((1 : Int32) = (4 : Int32)))).2 (by decide) (by decide) ?_
    show Steps p.tables e below (T10.setTop (mkF m 31 _ [])) target
    refine XS.iinc X10.here hx rfl (hb hby d1_31) rfl (l' := #[.val (.int 4), .val (.ref b2), .val (.int 4), .val (.int 1), .val (.ref w0)]) rfl ?_
    show Steps p.tables e below (T10.setTop (mkF m 34 _ [])) target
    refine XS.goto X10.here hx rfl (pc0 := 34) (pc' := 9) rfl (hb hby d1_34) (by decide) (by decide) ?_
    show Steps p.tables e below (T10.setTop (mkF m 9 _ [])) target
    refine XS.iloadN X10.here hx rfl (hb hby d1_9) rfl ?_
    show Steps p.tables e below (T10.setTop (mkF m 10 _ [(.int 1)])) target
    refine XS.iloadN X10.here hx rfl (hb hby d1_10) rfl ?_
    show Steps p.tables e below (T10.setTop (mkF m 11 _ [(.int 4), (.int 1)])) target
    refine XS.icmpNo X10.here hx rfl (hb hby d1_11) rfl (tlt (by decide : (1 : Int32) < (4 : Int32))).2.1 ?_
    show Steps p.tables e below (T10.setTop (mkF m 14 _ [])) target
    refine XS.aloadN X10.here hx rfl (hb hby d1_14) rfl rfl ?_
    show Steps p.tables e below (T10.setTop (mkF m 15 _ [(.ref b2)])) target
    refine XS.iloadN X10.here hx rfl (hb hby d1_15) rfl ?_
    show Steps p.tables e below (T10.setTop (mkF m 16 _ [(.int 1), (.ref b2)])) target
    refine X10.aaload hx (j := (1 : Int32)) (v := (.ref w1)) (by rw [e10]; exact q4.1) (State.isArrayOf_alike hZ.alike q4.2.1) rfl q4.2.2 hin1 hat1 (g := (mkF m 16 #[.val (.int 4), .val (.ref b2), .val (.int 4), .val (.int 1), .val (.ref w0)] [(.int 1), (.ref b2)])) rfl rfl (hb hby d1_16) _ ?_
    show Steps p.tables e below (T10.setTop (mkF m 17 _ [(.ref w1)])) target
    refine XS.astore X10.here hx rfl (hb hby d1_17) rfl rfl (l' := #[.val (.int 4), .val (.ref b2), .val (.int 4), .val (.int 1), .val (.ref w1)]) rfl ?_
    show Steps p.tables e below (T10.setTop (mkF m 19 _ [])) target
    refine XS.aload X10.here hx rfl (hb hby d1_19) rfl rfl ?_
    exact kt
  obtain ⟨T11, X11, e11, st11⟩ := getF X10 hx hZ hown (host := "") (Or.inl (hw _ tw24)) Via.refl e10 (F_w1.ext O8.2) (g := (mkF m 21 #[.val (.int 4), .val (.ref b2), .val (.int 4), .val (.int 1), .val (.ref w1)] [(.ref w1)])) rfl rfl (hb hby d1_21)
  refine Go.st st11 ?_
  show Go _ _ _ _ _ _ _ (T11.setTop (mkF m 24 _ [(.int 2)]))
  refine Go.st (t' := T11.setTop (mkF m 21 #[.val (.int 4), .val (.ref b2), .val (.int 4), .val (.int 2), .val (.ref w2)] [(.ref w2)])) (fun target kt => ?_) ?_
  · refine XS.iloadN X11.here hx rfl (hb hby d1_24) rfl ?_
    show Steps p.tables e below (T11.setTop (mkF m 25 _ [(.int 4), (.int 2)])) target
    refine XS.icmpYes X11.here hx rfl (pc0 := 25) (pc' := 31) rfl (hb hby d1_25) rfl (feq (by decide : ¬ ((2 : Int32) = (4 : Int32)))).2 (by decide) (by decide) ?_
    show Steps p.tables e below (T11.setTop (mkF m 31 _ [])) target
    refine XS.iinc X11.here hx rfl (hb hby d1_31) rfl (l' := #[.val (.int 4), .val (.ref b2), .val (.int 4), .val (.int 2), .val (.ref w1)]) rfl ?_
    show Steps p.tables e below (T11.setTop (mkF m 34 _ [])) target
    refine XS.goto X11.here hx rfl (pc0 := 34) (pc' := 9) rfl (hb hby d1_34) (by decide) (by decide) ?_
    show Steps p.tables e below (T11.setTop (mkF m 9 _ [])) target
    refine XS.iloadN X11.here hx rfl (hb hby d1_9) rfl ?_
    show Steps p.tables e below (T11.setTop (mkF m 10 _ [(.int 2)])) target
    refine XS.iloadN X11.here hx rfl (hb hby d1_10) rfl ?_
    show Steps p.tables e below (T11.setTop (mkF m 11 _ [(.int 4), (.int 2)])) target
    refine XS.icmpNo X11.here hx rfl (hb hby d1_11) rfl (tlt (by decide : (2 : Int32) < (4 : Int32))).2.1 ?_
    show Steps p.tables e below (T11.setTop (mkF m 14 _ [])) target
    refine XS.aloadN X11.here hx rfl (hb hby d1_14) rfl rfl ?_
    show Steps p.tables e below (T11.setTop (mkF m 15 _ [(.ref b2)])) target
    refine XS.iloadN X11.here hx rfl (hb hby d1_15) rfl ?_
    show Steps p.tables e below (T11.setTop (mkF m 16 _ [(.int 2), (.ref b2)])) target
    refine X11.aaload hx (j := (2 : Int32)) (v := (.ref w2)) (by rw [e11]; exact q4.1) (State.isArrayOf_alike hZ.alike q4.2.1) rfl q4.2.2 hin2 hat2 (g := (mkF m 16 #[.val (.int 4), .val (.ref b2), .val (.int 4), .val (.int 2), .val (.ref w1)] [(.int 2), (.ref b2)])) rfl rfl (hb hby d1_16) _ ?_
    show Steps p.tables e below (T11.setTop (mkF m 17 _ [(.ref w2)])) target
    refine XS.astore X11.here hx rfl (hb hby d1_17) rfl rfl (l' := #[.val (.int 4), .val (.ref b2), .val (.int 4), .val (.int 2), .val (.ref w2)]) rfl ?_
    show Steps p.tables e below (T11.setTop (mkF m 19 _ [])) target
    refine XS.aload X11.here hx rfl (hb hby d1_19) rfl rfl ?_
    exact kt
  obtain ⟨T12, X12, e12, st12⟩ := getF X11 hx hZ hown (host := "") (Or.inl (hw _ tw24)) Via.refl e11 (F_w2.ext O8.2) (g := (mkF m 21 #[.val (.int 4), .val (.ref b2), .val (.int 4), .val (.int 2), .val (.ref w2)] [(.ref w2)])) rfl rfl (hb hby d1_21)
  refine Go.st st12 ?_
  show Go _ _ _ _ _ _ _ (T12.setTop (mkF m 24 _ [(.int 3)]))
  refine Go.st (t' := T12.setTop (mkF m 21 #[.val (.int 4), .val (.ref b2), .val (.int 4), .val (.int 3), .val (.ref w3)] [(.ref w3)])) (fun target kt => ?_) ?_
  · refine XS.iloadN X12.here hx rfl (hb hby d1_24) rfl ?_
    show Steps p.tables e below (T12.setTop (mkF m 25 _ [(.int 4), (.int 3)])) target
    refine XS.icmpYes X12.here hx rfl (pc0 := 25) (pc' := 31) rfl (hb hby d1_25) rfl (feq (by decide : ¬ ((3 : Int32) = (4 : Int32)))).2 (by decide) (by decide) ?_
    show Steps p.tables e below (T12.setTop (mkF m 31 _ [])) target
    refine XS.iinc X12.here hx rfl (hb hby d1_31) rfl (l' := #[.val (.int 4), .val (.ref b2), .val (.int 4), .val (.int 3), .val (.ref w2)]) rfl ?_
    show Steps p.tables e below (T12.setTop (mkF m 34 _ [])) target
    refine XS.goto X12.here hx rfl (pc0 := 34) (pc' := 9) rfl (hb hby d1_34) (by decide) (by decide) ?_
    show Steps p.tables e below (T12.setTop (mkF m 9 _ [])) target
    refine XS.iloadN X12.here hx rfl (hb hby d1_9) rfl ?_
    show Steps p.tables e below (T12.setTop (mkF m 10 _ [(.int 3)])) target
    refine XS.iloadN X12.here hx rfl (hb hby d1_10) rfl ?_
    show Steps p.tables e below (T12.setTop (mkF m 11 _ [(.int 4), (.int 3)])) target
    refine XS.icmpNo X12.here hx rfl (hb hby d1_11) rfl (tlt (by decide : (3 : Int32) < (4 : Int32))).2.1 ?_
    show Steps p.tables e below (T12.setTop (mkF m 14 _ [])) target
    refine XS.aloadN X12.here hx rfl (hb hby d1_14) rfl rfl ?_
    show Steps p.tables e below (T12.setTop (mkF m 15 _ [(.ref b2)])) target
    refine XS.iloadN X12.here hx rfl (hb hby d1_15) rfl ?_
    show Steps p.tables e below (T12.setTop (mkF m 16 _ [(.int 3), (.ref b2)])) target
    refine X12.aaload hx (j := (3 : Int32)) (v := (.ref w3)) (by rw [e12]; exact q4.1) (State.isArrayOf_alike hZ.alike q4.2.1) rfl q4.2.2 hin3 hat3 (g := (mkF m 16 #[.val (.int 4), .val (.ref b2), .val (.int 4), .val (.int 3), .val (.ref w2)] [(.int 3), (.ref b2)])) rfl rfl (hb hby d1_16) _ ?_
    show Steps p.tables e below (T12.setTop (mkF m 17 _ [(.ref w3)])) target
    refine XS.astore X12.here hx rfl (hb hby d1_17) rfl rfl (l' := #[.val (.int 4), .val (.ref b2), .val (.int 4), .val (.int 3), .val (.ref w3)]) rfl ?_
    show Steps p.tables e below (T12.setTop (mkF m 19 _ [])) target
    refine XS.aload X12.here hx rfl (hb hby d1_19) rfl rfl ?_
    exact kt
  obtain ⟨T13, X13, e13, st13⟩ := getF X12 hx hZ hown (host := "") (Or.inl (hw _ tw24)) Via.refl e12 (F_w3.ext O8.2) (g := (mkF m 21 #[.val (.int 4), .val (.ref b2), .val (.int 4), .val (.int 3), .val (.ref w3)] [(.ref w3)])) rfl rfl (hb hby d1_21)
  refine Go.st st13 ?_
  show Go _ _ _ _ _ _ _ (T13.setTop (mkF m 24 _ [(.int 4)]))
  refine Go.st (t' := T13.setTop (mkF m 30 #[.val (.int 4), .val (.ref b2), .val (.int 4), .val (.int 3), .val (.ref w3)] [(.ref w3)])) (fun target kt => ?_) ?_
  · refine XS.iloadN X13.here hx rfl (hb hby d1_24) rfl ?_
    show Steps p.tables e below (T13.setTop (mkF m 25 _ [(.int 4), (.int 4)])) target
    refine XS.icmpNo X13.here hx rfl (hb hby d1_25) rfl (teq (by decide : (4 : Int32) = (4 : Int32))).2 ?_
    show Steps p.tables e below (T13.setTop (mkF m 28 _ [])) target
    refine XS.aload X13.here hx rfl (hb hby d1_28) rfl rfl ?_
    exact kt
  refine Go.ret X13 (v := some (.ref w3)) (fun h => by rw [hret] at h; cases h) hlk (fun fs hr => retR X13 hx hret rfl rfl (hb hby d1_30) hr) ?_ (by decide) (by decide)
  show Q1_3 Z wv clv w0 w1 w2 w3 h0 n0 _ T13.heap _
  rw [e13]
  exact ⟨rfl, N1, K7⟩
theorem d3_0 : decode prog_6_method_5_code 0 = .ok (.aload_n 0, 1) := by decide +kernel
theorem d3_1 : decode prog_6_method_5_code 1 = .ok (.getfield 39, 3) := by decide +kernel
theorem d3_4 : decode prog_6_method_5_code 4 = .ok (.ireturn, 1) := by decide +kernel
theorem ef3_0 (m : MethodId) (x0 : Addr) : entryFrame m #[(.ref x0)] 1 = mkF m 0 #[.val (.ref x0)] [] := by first | (simp [entryFrame, mkF, argsToLocals, Value.category]; done) | rfl
def Q3_0 (Z : State) (w0 : Addr) (w1 : Addr) (w2 : Addr) (w3 : Addr) (h0 : Heap) (n0 : Nat) (v : Option Value) (h : Heap) (L : List Loc) : Prop := v = some (.int 1) ∧ Fr n0 L ∧ h = h0
theorem rm3_0 (l : Launch) (Z : State) (a0 : Array Value) (hw : ∀ d ∈ tables_1, d.before a0 Z = true) (ws : List Jvm.Cond) (w0 : Addr) (w1 : Addr) (w2 : Addr) (w3 : Addr) (h0 : Heap) (n0 : Nat) (Z0 : n0 ≤ h0.size) (O0 : Old Z n0 h0) (F_w0 : Fld Z Z.heap w0 "com/example/mooring/mooring/Change$Event" "code" "B" (.int 1)) :
    Met l Z ws (⟨"com/example/mooring/mooring/Change$Event", "code", "()B"⟩ : MethodName) prog_6_method_5_code 1 (some .byte) (Rm 0 0 0 0) #[(.ref w0)] h0 (Q3_0 Z w0 w1 w2 w3 h0 n0) := by
  refine Met.enter (L0 := #[.val (.ref w0)]) (plainFor_of_name pn4) (fun m => ef3_0 m w0) ?_
  intro p e s m below meth c s₁ hx hby hml hown hnm hret hlk hZ X0 e0
  have N0 := Fr.nil n0
  have K0 : Keep h0 h0 [] := Keep.refl h0 _
  refine Go.st (t' := s₁.setTop (mkF m 1 #[.val (.ref w0)] [(.ref w0)])) (fun target kt => ?_) ?_
  · refine XS.aloadN X0.here hx rfl (hb hby d3_0) rfl rfl ?_
    exact kt
  obtain ⟨T1, X1, e1, st1⟩ := getF X0 hx hZ hown (host := "") (Or.inl (hw _ tw24)) Via.refl e0 (F_w0.ext O0.2) (g := (mkF m 1 #[.val (.ref w0)] [(.ref w0)])) rfl rfl (hb hby d3_1)
  refine Go.st st1 ?_
  show Go _ _ _ _ _ _ _ (T1.setTop (mkF m 4 _ [(.int 1)]))
  refine Go.ret X1 (v := some (.int 1)) (fun h => by rw [hret] at h; cases h) hlk (fun fs hr => retN X1 hx (t := .byte) hret (by simp) (hb hby d3_4) hr) ?_ (by decide) (by decide)
  show Q3_0 Z w0 w1 w2 w3 h0 n0 _ T1.heap _
  rw [e1]
  exact ⟨rfl, N0, rfl⟩
theorem ef3_1 (m : MethodId) (x0 : Addr) : entryFrame m #[(.ref x0)] 1 = mkF m 0 #[.val (.ref x0)] [] := by first | (simp [entryFrame, mkF, argsToLocals, Value.category]; done) | rfl
def Q3_1 (Z : State) (w1 : Addr) (w0 : Addr) (w2 : Addr) (w3 : Addr) (h0 : Heap) (n0 : Nat) (v : Option Value) (h : Heap) (L : List Loc) : Prop := v = some (.int 2) ∧ Fr n0 L ∧ h = h0
theorem rm3_1 (l : Launch) (Z : State) (a0 : Array Value) (hw : ∀ d ∈ tables_1, d.before a0 Z = true) (ws : List Jvm.Cond) (w1 : Addr) (w0 : Addr) (w2 : Addr) (w3 : Addr) (h0 : Heap) (n0 : Nat) (Z0 : n0 ≤ h0.size) (O0 : Old Z n0 h0) (F_w1 : Fld Z Z.heap w1 "com/example/mooring/mooring/Change$Event" "code" "B" (.int 2)) :
    Met l Z ws (⟨"com/example/mooring/mooring/Change$Event", "code", "()B"⟩ : MethodName) prog_6_method_5_code 1 (some .byte) (Rm 0 0 0 0) #[(.ref w1)] h0 (Q3_1 Z w1 w0 w2 w3 h0 n0) := by
  refine Met.enter (L0 := #[.val (.ref w1)]) (plainFor_of_name pn4) (fun m => ef3_1 m w1) ?_
  intro p e s m below meth c s₁ hx hby hml hown hnm hret hlk hZ X0 e0
  have N0 := Fr.nil n0
  have K0 : Keep h0 h0 [] := Keep.refl h0 _
  refine Go.st (t' := s₁.setTop (mkF m 1 #[.val (.ref w1)] [(.ref w1)])) (fun target kt => ?_) ?_
  · refine XS.aloadN X0.here hx rfl (hb hby d3_0) rfl rfl ?_
    exact kt
  obtain ⟨T1, X1, e1, st1⟩ := getF X0 hx hZ hown (host := "") (Or.inl (hw _ tw24)) Via.refl e0 (F_w1.ext O0.2) (g := (mkF m 1 #[.val (.ref w1)] [(.ref w1)])) rfl rfl (hb hby d3_1)
  refine Go.st st1 ?_
  show Go _ _ _ _ _ _ _ (T1.setTop (mkF m 4 _ [(.int 2)]))
  refine Go.ret X1 (v := some (.int 2)) (fun h => by rw [hret] at h; cases h) hlk (fun fs hr => retN X1 hx (t := .byte) hret (by simp) (hb hby d3_4) hr) ?_ (by decide) (by decide)
  show Q3_1 Z w1 w0 w2 w3 h0 n0 _ T1.heap _
  rw [e1]
  exact ⟨rfl, N0, rfl⟩
theorem ef3_2 (m : MethodId) (x0 : Addr) : entryFrame m #[(.ref x0)] 1 = mkF m 0 #[.val (.ref x0)] [] := by first | (simp [entryFrame, mkF, argsToLocals, Value.category]; done) | rfl
def Q3_2 (Z : State) (w2 : Addr) (w0 : Addr) (w1 : Addr) (w3 : Addr) (h0 : Heap) (n0 : Nat) (v : Option Value) (h : Heap) (L : List Loc) : Prop := v = some (.int 3) ∧ Fr n0 L ∧ h = h0
theorem rm3_2 (l : Launch) (Z : State) (a0 : Array Value) (hw : ∀ d ∈ tables_1, d.before a0 Z = true) (ws : List Jvm.Cond) (w2 : Addr) (w0 : Addr) (w1 : Addr) (w3 : Addr) (h0 : Heap) (n0 : Nat) (Z0 : n0 ≤ h0.size) (O0 : Old Z n0 h0) (F_w2 : Fld Z Z.heap w2 "com/example/mooring/mooring/Change$Event" "code" "B" (.int 3)) :
    Met l Z ws (⟨"com/example/mooring/mooring/Change$Event", "code", "()B"⟩ : MethodName) prog_6_method_5_code 1 (some .byte) (Rm 0 0 0 0) #[(.ref w2)] h0 (Q3_2 Z w2 w0 w1 w3 h0 n0) := by
  refine Met.enter (L0 := #[.val (.ref w2)]) (plainFor_of_name pn4) (fun m => ef3_2 m w2) ?_
  intro p e s m below meth c s₁ hx hby hml hown hnm hret hlk hZ X0 e0
  have N0 := Fr.nil n0
  have K0 : Keep h0 h0 [] := Keep.refl h0 _
  refine Go.st (t' := s₁.setTop (mkF m 1 #[.val (.ref w2)] [(.ref w2)])) (fun target kt => ?_) ?_
  · refine XS.aloadN X0.here hx rfl (hb hby d3_0) rfl rfl ?_
    exact kt
  obtain ⟨T1, X1, e1, st1⟩ := getF X0 hx hZ hown (host := "") (Or.inl (hw _ tw24)) Via.refl e0 (F_w2.ext O0.2) (g := (mkF m 1 #[.val (.ref w2)] [(.ref w2)])) rfl rfl (hb hby d3_1)
  refine Go.st st1 ?_
  show Go _ _ _ _ _ _ _ (T1.setTop (mkF m 4 _ [(.int 3)]))
  refine Go.ret X1 (v := some (.int 3)) (fun h => by rw [hret] at h; cases h) hlk (fun fs hr => retN X1 hx (t := .byte) hret (by simp) (hb hby d3_4) hr) ?_ (by decide) (by decide)
  show Q3_2 Z w2 w0 w1 w3 h0 n0 _ T1.heap _
  rw [e1]
  exact ⟨rfl, N0, rfl⟩
theorem ef3_3 (m : MethodId) (x0 : Addr) : entryFrame m #[(.ref x0)] 1 = mkF m 0 #[.val (.ref x0)] [] := by first | (simp [entryFrame, mkF, argsToLocals, Value.category]; done) | rfl
def Q3_3 (Z : State) (w3 : Addr) (w0 : Addr) (w1 : Addr) (w2 : Addr) (h0 : Heap) (n0 : Nat) (v : Option Value) (h : Heap) (L : List Loc) : Prop := v = some (.int 4) ∧ Fr n0 L ∧ h = h0
theorem rm3_3 (l : Launch) (Z : State) (a0 : Array Value) (hw : ∀ d ∈ tables_1, d.before a0 Z = true) (ws : List Jvm.Cond) (w3 : Addr) (w0 : Addr) (w1 : Addr) (w2 : Addr) (h0 : Heap) (n0 : Nat) (Z0 : n0 ≤ h0.size) (O0 : Old Z n0 h0) (F_w3 : Fld Z Z.heap w3 "com/example/mooring/mooring/Change$Event" "code" "B" (.int 4)) :
    Met l Z ws (⟨"com/example/mooring/mooring/Change$Event", "code", "()B"⟩ : MethodName) prog_6_method_5_code 1 (some .byte) (Rm 0 0 0 0) #[(.ref w3)] h0 (Q3_3 Z w3 w0 w1 w2 h0 n0) := by
  refine Met.enter (L0 := #[.val (.ref w3)]) (plainFor_of_name pn4) (fun m => ef3_3 m w3) ?_
  intro p e s m below meth c s₁ hx hby hml hown hnm hret hlk hZ X0 e0
  have N0 := Fr.nil n0
  have K0 : Keep h0 h0 [] := Keep.refl h0 _
  refine Go.st (t' := s₁.setTop (mkF m 1 #[.val (.ref w3)] [(.ref w3)])) (fun target kt => ?_) ?_
  · refine XS.aloadN X0.here hx rfl (hb hby d3_0) rfl rfl ?_
    exact kt
  obtain ⟨T1, X1, e1, st1⟩ := getF X0 hx hZ hown (host := "") (Or.inl (hw _ tw24)) Via.refl e0 (F_w3.ext O0.2) (g := (mkF m 1 #[.val (.ref w3)] [(.ref w3)])) rfl rfl (hb hby d3_1)
  refine Go.st st1 ?_
  show Go _ _ _ _ _ _ _ (T1.setTop (mkF m 4 _ [(.int 4)]))
  refine Go.ret X1 (v := some (.int 4)) (fun h => by rw [hret] at h; cases h) hlk (fun fs hr => retN X1 hx (t := .byte) hret (by simp) (hb hby d3_4) hr) ?_ (by decide) (by decide)
  show Q3_3 Z w3 w0 w1 w2 h0 n0 _ T1.heap _
  rw [e1]
  exact ⟨rfl, N0, rfl⟩
theorem tw0 : (Jvm.Cond.fieldLink "com/example/mooring/mooring/EventOfCodePinLaw" (7 : Nat) "com/example/mooring/mooring/Change$Event" "BOUND" "Lcom/example/mooring/mooring/Change$Event;") ∈ tables_1 := List.mem_of_getElem? (i := 0) rfl
theorem tw3 : (Jvm.Cond.methodLink "com/example/mooring/mooring/EventOfCodePinLaw" (22 : Nat) ({ cls := "com/example/mooring/mooring/Change$Event", name := "ofCode", desc := "(B)Lcom/example/mooring/mooring/Change$Event;" } : Jvm.MethodName)) ∈ tables_1 := List.mem_of_getElem? (i := 3) rfl
theorem tw5 : (Jvm.Cond.code ({ cls := "com/example/mooring/mooring/Change$Event", name := "ofCode", desc := "(B)Lcom/example/mooring/mooring/Change$Event;" } : Jvm.MethodName) prog_6_method_6_code (5 : Nat) (Option.some (Jvm.ClassFile.FieldType.object "com/example/mooring/mooring/Change$Event"))) ∈ tables_1 := List.mem_of_getElem? (i := 5) rfl
theorem pd1 : parseMethodDescriptor "(B)Lcom/example/mooring/mooring/Change$Event;" = some ⟨[.byte], some (.object "com/example/mooring/mooring/Change$Event")⟩ := by decide +kernel
theorem tw4 : (Jvm.Cond.static ({ cls := "com/example/mooring/mooring/Change$Event", name := "ofCode", desc := "(B)Lcom/example/mooring/mooring/Change$Event;" } : Jvm.MethodName)) ∈ tables_1 := List.mem_of_getElem? (i := 4) rfl
theorem tw26 : (Jvm.Cond.methodLink "com/example/mooring/mooring/EventOfCodePinLaw" (26 : Nat) ({ cls := "com/example/mooring/mooring/Change$Event", name := "code", desc := "()B" } : Jvm.MethodName)) ∈ tables_1 := List.mem_of_getElem? (i := 26) rfl
theorem tw30 : (Jvm.Cond.code ({ cls := "com/example/mooring/mooring/Change$Event", name := "code", desc := "()B" } : Jvm.MethodName) prog_6_method_5_code (1 : Nat) (Option.some Jvm.ClassFile.FieldType.byte)) ∈ tables_1 := List.mem_of_getElem? (i := 30) rfl
theorem pd2 : parseMethodDescriptor "()B" = some ⟨[], some .byte⟩ := by decide +kernel
theorem tw29 : (Jvm.Cond.selects "com/example/mooring/mooring/Change$Event" ({ cls := "com/example/mooring/mooring/Change$Event", name := "code", desc := "()B" } : Jvm.MethodName) ({ cls := "com/example/mooring/mooring/Change$Event", name := "code", desc := "()B" } : Jvm.MethodName)) ∈ tables_1 := List.mem_of_getElem? (i := 29) rfl
theorem tw27 : (Jvm.Cond.declares ({ cls := "com/example/mooring/mooring/Change$Event", name := "code", desc := "()B" } : Jvm.MethodName)) ∈ tables_1 := List.mem_of_getElem? (i := 27) rfl
theorem tw28 : (Jvm.Cond.instanceMethod ({ cls := "com/example/mooring/mooring/Change$Event", name := "code", desc := "()B" } : Jvm.MethodName)) ∈ tables_1 := List.mem_of_getElem? (i := 28) rfl
theorem tw33 : (Jvm.Cond.fieldLink "com/example/mooring/mooring/EventOfCodePinLaw" (13 : Nat) "com/example/mooring/mooring/Change$Event" "MOVED" "Lcom/example/mooring/mooring/Change$Event;") ∈ tables_1 := List.mem_of_getElem? (i := 33) rfl
theorem tw32 : (Jvm.Cond.fieldLink "com/example/mooring/mooring/EventOfCodePinLaw" (16 : Nat) "com/example/mooring/mooring/Change$Event" "ALTERNATIVE" "Lcom/example/mooring/mooring/Change$Event;") ∈ tables_1 := List.mem_of_getElem? (i := 32) rfl
theorem tw31 : (Jvm.Cond.fieldLink "com/example/mooring/mooring/EventOfCodePinLaw" (19 : Nat) "com/example/mooring/mooring/Change$Event" "WITHDRAWN" "Lcom/example/mooring/mooring/Change$Event;") ∈ tables_1 := List.mem_of_getElem? (i := 31) rfl
theorem ef0 (m : MethodId) (x0 : Int32) : entryFrame m #[(.int x0)] maxLocals = mkF m 0 #[.val (.int x0), .unset, .unset, .unset, .unset] [] := by first | (simp [entryFrame, mkF, argsToLocals, Value.category, maxLocals]; done) | rfl
def Q0 (Z : State) (p0 : Int32) (wv : Addr) (clv : Cell) (w0 : Addr) (w1 : Addr) (w2 : Addr) (w3 : Addr) (h0 : Heap) (n0 : Nat) (v : Option Value) (h : Heap) (L : List Loc) : Prop := v = some (.int 1) ∧ Fr n0 L ∧ Keep h0 h []
theorem pn30 : plainName "com/example/mooring/mooring/EventOfCodePinLaw" = true := by first | (simp [plainName, overriddenIn]; done) | decide +kernel
theorem rm0 (l : Launch) (Z : State) (a0 : Array Value) (hw : ∀ d ∈ tables_1, d.before a0 Z = true) (ws : List Jvm.Cond) (p0 : Int32) (wv : Addr) (clv : Cell) (w0 : Addr) (w1 : Addr) (w2 : Addr) (w3 : Addr) (h0 : Heap) (n0 : Nat) (Z0 : n0 ≤ h0.size) (O0 : Old Z n0 h0) (S_VALUES : Sta Z Z.heap "com/example/mooring/mooring/Change$Event" "$VALUES" "[Lcom/example/mooring/mooring/Change$Event;" (.ref wv)) (A_wv : Arr Z Z.heap wv clv (.object "com/example/mooring/mooring/Change$Event")) (E_wv : Exa Z Z.heap wv "[Lcom/example/mooring/mooring/Change$Event;") (FC : FitC Z clv) (Sv : clv.slots.size = (4 : Int32).toNatClampNeg) (Mv : ¬ (4 : Int32) < 0) (E_w0 : Exa Z Z.heap w0 "com/example/mooring/mooring/Change$Event") (F_w0 : Fld Z Z.heap w0 "com/example/mooring/mooring/Change$Event" "code" "B" (.int 1)) (hin0 : ¬ ((0 : Int32) < 0 ∨ clv.slots.size ≤ ((0 : Int32)).toNatClampNeg)) (hat0 : clv.slots[((0 : Int32)).toNatClampNeg]? = some (.ref w0)) (E_w1 : Exa Z Z.heap w1 "com/example/mooring/mooring/Change$Event") (F_w1 : Fld Z Z.heap w1 "com/example/mooring/mooring/Change$Event" "code" "B" (.int 2)) (hin1 : ¬ ((1 : Int32) < 0 ∨ clv.slots.size ≤ ((1 : Int32)).toNatClampNeg)) (hat1 : clv.slots[((1 : Int32)).toNatClampNeg]? = some (.ref w1)) (E_w2 : Exa Z Z.heap w2 "com/example/mooring/mooring/Change$Event") (F_w2 : Fld Z Z.heap w2 "com/example/mooring/mooring/Change$Event" "code" "B" (.int 3)) (hin2 : ¬ ((2 : Int32) < 0 ∨ clv.slots.size ≤ ((2 : Int32)).toNatClampNeg)) (hat2 : clv.slots[((2 : Int32)).toNatClampNeg]? = some (.ref w2)) (E_w3 : Exa Z Z.heap w3 "com/example/mooring/mooring/Change$Event") (F_w3 : Fld Z Z.heap w3 "com/example/mooring/mooring/Change$Event" "code" "B" (.int 4)) (hin3 : ¬ ((3 : Int32) < 0 ∨ clv.slots.size ≤ ((3 : Int32)).toNatClampNeg)) (hat3 : clv.slots[((3 : Int32)).toNatClampNeg]? = some (.ref w3)) (S_BOUND : Sta Z Z.heap "com/example/mooring/mooring/Change$Event" "BOUND" "Lcom/example/mooring/mooring/Change$Event;" (.ref w0)) (S_MOVED : Sta Z Z.heap "com/example/mooring/mooring/Change$Event" "MOVED" "Lcom/example/mooring/mooring/Change$Event;" (.ref w1)) (S_ALTERNATIVE : Sta Z Z.heap "com/example/mooring/mooring/Change$Event" "ALTERNATIVE" "Lcom/example/mooring/mooring/Change$Event;" (.ref w2)) (S_WITHDRAWN : Sta Z Z.heap "com/example/mooring/mooring/Change$Event" "WITHDRAWN" "Lcom/example/mooring/mooring/Change$Event;" (.ref w3)) :
    Met l Z ws x code maxLocals ret room_1 #[(.int p0)] h0 (Q0 Z p0 wv clv w0 w1 w2 w3 h0 n0) := by
  refine Met.enter (L0 := #[.val (.int p0), .unset, .unset, .unset, .unset]) (plainFor_of_name pn30) (fun m => ef0 m p0) ?_
  intro p e s m below meth c s₁ hx hby hml hown hnm hret hlk hZ X0 e0
  have N0 := Fr.nil n0
  have K0 : Keep h0 h0 [] := Keep.refl h0 _
  refine Go.st (t' := s₁.setTop (mkF m 3 #[.val (.int p0), .unset, .unset, .unset, .unset] [(.int (p0 &&& (3 : Int32)))])) (fun target kt => ?_) ?_
  · refine XS.iloadN X0.here hx rfl (hb hby at_0) rfl ?_
    show Steps p.tables e below (s₁.setTop (mkF m 1 _ [(.int p0)])) target
    refine XS.iconst X0.here hx rfl (hb hby at_1) ?_
    show Steps p.tables e below (s₁.setTop (mkF m 2 _ [(.int 3), (.int p0)])) target
    refine XS.iand X0.here hx rfl (hb hby at_2) rfl ?_
    exact kt
  rcases (own_and3 p0 : (p0 &&& (3 : Int32)) = (0 : Int32) ∨ (p0 &&& (3 : Int32)) = (1 : Int32) ∨ (p0 &&& (3 : Int32)) = (2 : Int32) ∨ (p0 &&& (3 : Int32)) = (3 : Int32)) with hk | hk | hk | hk
  · have hk_ := hk
    rw [hk]
    show Go _ _ _ _ _ _ _ (s₁.setTop (mkF m 3 _ [(.int 0)]))
    refine Go.st (t' := s₁.setTop (mkF m 13 #[.val (.int p0), .val (.int 0), .val (.int 1), .unset, .unset] [])) (fun target kt => ?_) ?_
    · refine XS.istoreN X0.here hx rfl (hb hby at_3) rfl (l' := #[.val (.int p0), .val (.int 0), .unset, .unset, .unset]) rfl ?_
      show Steps p.tables e below (s₁.setTop (mkF m 4 _ [])) target
      refine XS.iloadN X0.here hx rfl (hb hby at_4) rfl ?_
      show Steps p.tables e below (s₁.setTop (mkF m 5 _ [(.int 0)])) target
      refine XS.iconst X0.here hx rfl (hb hby at_5) ?_
      show Steps p.tables e below (s₁.setTop (mkF m 6 _ [(.int 1), (.int 0)])) target
      refine XS.iadd X0.here hx rfl (hb hby at_6) rfl ?_
      show Steps p.tables e below (s₁.setTop (mkF m 7 _ [(.int 1)])) target
      refine XS.i2b X0.here hx rfl (hb hby at_7) rfl ?_
      show Steps p.tables e below (s₁.setTop (mkF m 8 _ [(.int 1)])) target
      refine XS.istoreN X0.here hx rfl (hb hby at_8) rfl (l' := #[.val (.int p0), .val (.int 0), .val (.int 1), .unset, .unset]) rfl ?_
      show Steps p.tables e below (s₁.setTop (mkF m 9 _ [])) target
      refine XS.iloadN X0.here hx rfl (hb hby at_9) rfl ?_
      show Steps p.tables e below (s₁.setTop (mkF m 10 _ [(.int 0)])) target
      refine XS.ifNo X0.here hx rfl (hb hby at_10) rfl ((if0 _ _).trans (teq (by decide : (0 : Int32) = (0 : Int32))).2) ?_
      exact kt
    obtain ⟨T1, X1, e1, st1⟩ := getS2 X0 hx hZ hown (host := "") (Or.inl (hw _ tw0)) Via.refl e0 (S_BOUND.ext O0.2) (g := (mkF m 13 #[.val (.int p0), .val (.int 0), .val (.int 1), .unset, .unset] [])) rfl (hb hby at_13)
    refine Go.st st1 ?_
    show Go _ _ _ _ _ _ _ (T1.setTop (mkF m 16 _ [(.ref w0)]))
    refine Go.st (t' := T1.setTop (mkF m 49 #[.val (.int p0), .val (.int 0), .val (.int 1), .val (.ref w0), .unset] [(.int 1)])) (fun target kt => ?_) ?_
    · refine XS.astoreN X1.here hx rfl (hb hby at_16) rfl rfl (l' := #[.val (.int p0), .val (.int 0), .val (.int 1), .val (.ref w0), .unset]) rfl ?_
      show Steps p.tables e below (T1.setTop (mkF m 17 _ [])) target
      refine XS.goto X1.here hx rfl (pc0 := 17) (pc' := 48) rfl (hb hby at_17) (by decide) (by decide) ?_
      show Steps p.tables e below (T1.setTop (mkF m 48 _ [])) target
      refine XS.iloadN X1.here hx rfl (hb hby at_48) rfl ?_
      exact kt
    obtain ⟨_, _, ⟨T2, L2, k2, n2⟩, -, X2, ⟨Lc2, hQ2, l2, y2, z2⟩, st2⟩ := Jvm.LawKit.callS X1 hx (y := (⟨"com/example/mooring/mooring/Change$Event", "ofCode", "(B)Lcom/example/mooring/mooring/Change$Event;"⟩ : MethodName)) hown (mvT hZ (hw _ tw3)) (mvT hZ (hw _ tw4)) (mvT hZ (hw _ tw1)) (mvT hZ (hw _ tw5)) (by decide) (backOf (W := 0) (rm1_0 l Z a0 hw [] wv clv w0 w1 w2 w3 h0 n0 (Nat.le_trans Z0 K0.1) O0 S_VALUES A_wv E_wv FC Sv Mv F_w0 hin0 hat0 ) hZ (hw _ tw5) (hw _ tw1) (by decide) (by decide)) (g := (mkF m 49 #[.val (.int p0), .val (.int 0), .val (.int 1), .val (.ref w0), .unset] [(.int 1)])) rfl (by rw [hml]; rfl) (argsL := [(.int 1)]) (rest := []) (lenOf pd1 rfl) rfl (by show 2 * 0 + _ ≤ _; exact Nat.le_of_eq rfl) (hb hby at_49) (fun _ _ => ⟨rfl, e1, (by decide : 0 + 1 ≤ _), (by decide : 0 + 4 ≤ _)⟩)
    dsimp only [Pt.U, Pt.locs, Pt.cells, Pt.slots] at X2 l2 y2 z2 st2 hQ2
    subst l2 y2 z2
    obtain ⟨rfl, Nq2, Kq2⟩ := hQ2
    have N2 := Fr.app N0 Nq2
    have K3 := K0.trans Kq2 all0
    have O4 := O0.keep Kq2 all0
    refine Go.st st2 ?_
    show Go _ _ _ _ _ _ _ (T2.setTop (mkF m 52 _ [(.ref w0)]))
    refine Go.st (t' := T2.setTop (mkF m 62 #[.val (.int p0), .val (.int 0), .val (.int 1), .val (.ref w0), .val (.ref w0)] [(.ref w0)])) (fun target kt => ?_) ?_
    · refine XS.astore X2.here hx rfl (hb hby at_52) rfl rfl (l' := #[.val (.int p0), .val (.int 0), .val (.int 1), .val (.ref w0), .val (.ref w0)]) rfl ?_
      show Steps p.tables e below (T2.setTop (mkF m 54 _ [])) target
      refine XS.aload X2.here hx rfl (hb hby at_54) rfl rfl ?_
      show Steps p.tables e below (T2.setTop (mkF m 56 _ [(.ref w0)])) target
      refine XS.aloadN X2.here hx rfl (hb hby at_56) rfl rfl ?_
      show Steps p.tables e below (T2.setTop (mkF m 57 _ [(.ref w0), (.ref w0)])) target
      refine Jvm.RoadKit.acmp (g := (mkF m 57 #[.val (.int p0), .val (.int 0), .val (.int 1), .val (.ref w0), .val (.ref w0)] [(.ref w0), (.ref w0)])) X2 hx rfl rfl rfl (pc0 := 57) (pc' := 60) (same := true) rfl (hb hby at_57) rfl (decide_eq_true rfl) (by decide) (by decide) ?_
      show Steps p.tables e below (T2.setTop (mkF m 60 _ [])) target
      refine XS.aload X2.here hx rfl (hb hby at_60) rfl rfl ?_
      exact kt
    obtain ⟨cq5, kq5, q5a, q5b, q5c⟩ := isOf hZ rfl (E_w0.ext O4.2)
    obtain ⟨_, _, ⟨T5, L5, k5, n5⟩, -, X5, ⟨Lc5, hQ5, l5, y5, z5⟩, st5⟩ := X2.virtualBack hx (y := (⟨"com/example/mooring/mooring/Change$Event", "code", "()B"⟩ : MethodName)) (z := (⟨"com/example/mooring/mooring/Change$Event", "code", "()B"⟩ : MethodName)) hown (mvT hZ (hw _ tw26)) (mvT hZ (hw _ tw27)) (notFace_of_selects (args := #[]) (mvT hZ (hw _ tw29))) (mvT hZ (hw _ tw29)) (mvT hZ (hw _ tw28)) (by decide) (backOf (W := 0) (rm3_0 l Z a0 hw [] w0 w1 w2 w3 T2.heap n0 (Nat.le_trans Z0 K3.1) O4 F_w0 ) hZ (hw _ tw30) (hw _ tw1) (by decide) (by decide)) q5a q5c (g := (mkF m 62 #[.val (.int p0), .val (.int 0), .val (.int 1), .val (.ref w0), .val (.ref w0)] [(.ref w0)])) rfl (by rw [hml]; rfl) (Steps.refl _) (argsL := []) (rest := []) (lenOf pd2 rfl) rfl (by show 2 * 0 + _ ≤ _; exact Nat.le_of_eq rfl) (hb hby at_62) (fun _ _ => ⟨rfl, rfl, (by decide : 1 + 0 ≤ _), (by decide : 4 + 0 ≤ _)⟩)
    dsimp only [Pt.U, Pt.locs, Pt.cells, Pt.slots] at X5 l5 y5 z5 st5 hQ5
    subst l5 y5 z5
    obtain ⟨rfl, Nq5, eq5⟩ := hQ5
    have N5 := Fr.app N2 Nq5
    refine Go.by st5 ?_
    show Go _ _ _ _ _ _ _ (T5.setTop (mkF m 65 _ [(.int 1)]))
    refine Go.st (t' := T5.setTop (mkF m 74 #[.val (.int p0), .val (.int 0), .val (.int 1), .val (.ref w0), .val (.ref w0)] [(.int 1)])) (fun target kt => ?_) ?_
    · refine XS.iloadN X5.here hx rfl (hb hby at_65) rfl ?_
      show Steps p.tables e below (T5.setTop (mkF m 66 _ [(.int 1), (.int 1)])) target
      refine XS.icmpNo X5.here hx rfl (hb hby at_66) rfl (teq (by decide : (1 : Int32) = (1 : Int32))).2 ?_
      show Steps p.tables e below (T5.setTop (mkF m 69 _ [])) target
      refine XS.iconst X5.here hx rfl (hb hby at_69) ?_
      show Steps p.tables e below (T5.setTop (mkF m 70 _ [(.int 1)])) target
      refine XS.goto X5.here hx rfl (pc0 := 70) (pc' := 74) rfl (hb hby at_70) (by decide) (by decide) ?_
      exact kt
    refine Go.ret X5 (v := some (.int 1)) (fun h => by rw [hret] at h; cases h) hlk (fun fs hr => retN X5 hx (t := .boolean) hret (by simp) (hb hby at_74) hr) ?_ (by decide) (by decide)
    show Q0 Z p0 wv clv w0 w1 w2 w3 h0 n0 _ T5.heap _
    rw [eq5]
    exact ⟨rfl, N5, K3⟩
  · have hk_ := hk
    rw [hk]
    show Go _ _ _ _ _ _ _ (s₁.setTop (mkF m 3 _ [(.int 1)]))
    refine Go.st (t' := s₁.setTop (mkF m 25 #[.val (.int p0), .val (.int 1), .val (.int 2), .unset, .unset] [])) (fun target kt => ?_) ?_
    · refine XS.istoreN X0.here hx rfl (hb hby at_3) rfl (l' := #[.val (.int p0), .val (.int 1), .unset, .unset, .unset]) rfl ?_
      show Steps p.tables e below (s₁.setTop (mkF m 4 _ [])) target
      refine XS.iloadN X0.here hx rfl (hb hby at_4) rfl ?_
      show Steps p.tables e below (s₁.setTop (mkF m 5 _ [(.int 1)])) target
      refine XS.iconst X0.here hx rfl (hb hby at_5) ?_
      show Steps p.tables e below (s₁.setTop (mkF m 6 _ [(.int 1), (.int 1)])) target
      refine XS.iadd X0.here hx rfl (hb hby at_6) rfl ?_
      show Steps p.tables e below (s₁.setTop (mkF m 7 _ [(.int 2)])) target
      refine XS.i2b X0.here hx rfl (hb hby at_7) rfl ?_
      show Steps p.tables e below (s₁.setTop (mkF m 8 _ [(.int 2)])) target
      refine XS.istoreN X0.here hx rfl (hb hby at_8) rfl (l' := #[.val (.int p0), .val (.int 1), .val (.int 2), .unset, .unset]) rfl ?_
      show Steps p.tables e below (s₁.setTop (mkF m 9 _ [])) target
      refine XS.iloadN X0.here hx rfl (hb hby at_9) rfl ?_
      show Steps p.tables e below (s₁.setTop (mkF m 10 _ [(.int 1)])) target
      refine XS.ifYes X0.here hx rfl (pc0 := 10) (pc' := 20) rfl (hb hby at_10) rfl ((if0 _ _).trans (feq (by decide : ¬ ((1 : Int32) = (0 : Int32)))).2) (by decide) (by decide) ?_
      show Steps p.tables e below (s₁.setTop (mkF m 20 _ [])) target
      refine XS.iloadN X0.here hx rfl (hb hby at_20) rfl ?_
      show Steps p.tables e below (s₁.setTop (mkF m 21 _ [(.int 1)])) target
      refine XS.iconst X0.here hx rfl (hb hby at_21) ?_
      show Steps p.tables e below (s₁.setTop (mkF m 22 _ [(.int 1), (.int 1)])) target
      refine XS.icmpNo X0.here hx rfl (hb hby at_22) rfl (teq (by decide : (1 : Int32) = (1 : Int32))).2 ?_
      exact kt
    obtain ⟨T6, X6, e6, st6⟩ := getS2 X0 hx hZ hown (host := "") (Or.inl (hw _ tw33)) Via.refl e0 (S_MOVED.ext O0.2) (g := (mkF m 25 #[.val (.int p0), .val (.int 1), .val (.int 2), .unset, .unset] [])) rfl (hb hby at_25)
    refine Go.st st6 ?_
    show Go _ _ _ _ _ _ _ (T6.setTop (mkF m 28 _ [(.ref w1)]))
    refine Go.st (t' := T6.setTop (mkF m 49 #[.val (.int p0), .val (.int 1), .val (.int 2), .val (.ref w1), .unset] [(.int 2)])) (fun target kt => ?_) ?_
    · refine XS.astoreN X6.here hx rfl (hb hby at_28) rfl rfl (l' := #[.val (.int p0), .val (.int 1), .val (.int 2), .val (.ref w1), .unset]) rfl ?_
      show Steps p.tables e below (T6.setTop (mkF m 29 _ [])) target
      refine XS.goto X6.here hx rfl (pc0 := 29) (pc' := 48) rfl (hb hby at_29) (by decide) (by decide) ?_
      show Steps p.tables e below (T6.setTop (mkF m 48 _ [])) target
      refine XS.iloadN X6.here hx rfl (hb hby at_48) rfl ?_
      exact kt
    obtain ⟨_, _, ⟨T7, L7, k7, n7⟩, -, X7, ⟨Lc7, hQ7, l7, y7, z7⟩, st7⟩ := Jvm.LawKit.callS X6 hx (y := (⟨"com/example/mooring/mooring/Change$Event", "ofCode", "(B)Lcom/example/mooring/mooring/Change$Event;"⟩ : MethodName)) hown (mvT hZ (hw _ tw3)) (mvT hZ (hw _ tw4)) (mvT hZ (hw _ tw1)) (mvT hZ (hw _ tw5)) (by decide) (backOf (W := 0) (rm1_1 l Z a0 hw [] wv clv w0 w1 w2 w3 h0 n0 (Nat.le_trans Z0 K0.1) O0 S_VALUES A_wv E_wv FC Sv Mv F_w0 hin0 hat0 F_w1 hin1 hat1 ) hZ (hw _ tw5) (hw _ tw1) (by decide) (by decide)) (g := (mkF m 49 #[.val (.int p0), .val (.int 1), .val (.int 2), .val (.ref w1), .unset] [(.int 2)])) rfl (by rw [hml]; rfl) (argsL := [(.int 2)]) (rest := []) (lenOf pd1 rfl) rfl (by show 2 * 0 + _ ≤ _; exact Nat.le_of_eq rfl) (hb hby at_49) (fun _ _ => ⟨rfl, e6, (by decide : 0 + 1 ≤ _), (by decide : 0 + 4 ≤ _)⟩)
    dsimp only [Pt.U, Pt.locs, Pt.cells, Pt.slots] at X7 l7 y7 z7 st7 hQ7
    subst l7 y7 z7
    obtain ⟨rfl, Nq7, Kq7⟩ := hQ7
    have N7 := Fr.app N0 Nq7
    have K8 := K0.trans Kq7 all0
    have O9 := O0.keep Kq7 all0
    refine Go.st st7 ?_
    show Go _ _ _ _ _ _ _ (T7.setTop (mkF m 52 _ [(.ref w1)]))
    refine Go.st (t' := T7.setTop (mkF m 62 #[.val (.int p0), .val (.int 1), .val (.int 2), .val (.ref w1), .val (.ref w1)] [(.ref w1)])) (fun target kt => ?_) ?_
    · refine XS.astore X7.here hx rfl (hb hby at_52) rfl rfl (l' := #[.val (.int p0), .val (.int 1), .val (.int 2), .val (.ref w1), .val (.ref w1)]) rfl ?_
      show Steps p.tables e below (T7.setTop (mkF m 54 _ [])) target
      refine XS.aload X7.here hx rfl (hb hby at_54) rfl rfl ?_
      show Steps p.tables e below (T7.setTop (mkF m 56 _ [(.ref w1)])) target
      refine XS.aloadN X7.here hx rfl (hb hby at_56) rfl rfl ?_
      show Steps p.tables e below (T7.setTop (mkF m 57 _ [(.ref w1), (.ref w1)])) target
      refine Jvm.RoadKit.acmp (g := (mkF m 57 #[.val (.int p0), .val (.int 1), .val (.int 2), .val (.ref w1), .val (.ref w1)] [(.ref w1), (.ref w1)])) X7 hx rfl rfl rfl (pc0 := 57) (pc' := 60) (same := true) rfl (hb hby at_57) rfl (decide_eq_true rfl) (by decide) (by decide) ?_
      show Steps p.tables e below (T7.setTop (mkF m 60 _ [])) target
      refine XS.aload X7.here hx rfl (hb hby at_60) rfl rfl ?_
      exact kt
    obtain ⟨cq10, kq10, q10a, q10b, q10c⟩ := isOf hZ rfl (E_w1.ext O9.2)
    obtain ⟨_, _, ⟨T10, L10, k10, n10⟩, -, X10, ⟨Lc10, hQ10, l10, y10, z10⟩, st10⟩ := X7.virtualBack hx (y := (⟨"com/example/mooring/mooring/Change$Event", "code", "()B"⟩ : MethodName)) (z := (⟨"com/example/mooring/mooring/Change$Event", "code", "()B"⟩ : MethodName)) hown (mvT hZ (hw _ tw26)) (mvT hZ (hw _ tw27)) (notFace_of_selects (args := #[]) (mvT hZ (hw _ tw29))) (mvT hZ (hw _ tw29)) (mvT hZ (hw _ tw28)) (by decide) (backOf (W := 0) (rm3_1 l Z a0 hw [] w1 w0 w2 w3 T7.heap n0 (Nat.le_trans Z0 K8.1) O9 F_w1 ) hZ (hw _ tw30) (hw _ tw1) (by decide) (by decide)) q10a q10c (g := (mkF m 62 #[.val (.int p0), .val (.int 1), .val (.int 2), .val (.ref w1), .val (.ref w1)] [(.ref w1)])) rfl (by rw [hml]; rfl) (Steps.refl _) (argsL := []) (rest := []) (lenOf pd2 rfl) rfl (by show 2 * 0 + _ ≤ _; exact Nat.le_of_eq rfl) (hb hby at_62) (fun _ _ => ⟨rfl, rfl, (by decide : 1 + 0 ≤ _), (by decide : 4 + 0 ≤ _)⟩)
    dsimp only [Pt.U, Pt.locs, Pt.cells, Pt.slots] at X10 l10 y10 z10 st10 hQ10
    subst l10 y10 z10
    obtain ⟨rfl, Nq10, eq10⟩ := hQ10
    have N10 := Fr.app N7 Nq10
    refine Go.by st10 ?_
    show Go _ _ _ _ _ _ _ (T10.setTop (mkF m 65 _ [(.int 2)]))
    refine Go.st (t' := T10.setTop (mkF m 74 #[.val (.int p0), .val (.int 1), .val (.int 2), .val (.ref w1), .val (.ref w1)] [(.int 1)])) (fun target kt => ?_) ?_
    · refine XS.iloadN X10.here hx rfl (hb hby at_65) rfl ?_
      show Steps p.tables e below (T10.setTop (mkF m 66 _ [(.int 2), (.int 2)])) target
      refine XS.icmpNo X10.here hx rfl (hb hby at_66) rfl (teq (by decide : (2 : Int32) = (2 : Int32))).2 ?_
      show Steps p.tables e below (T10.setTop (mkF m 69 _ [])) target
      refine XS.iconst X10.here hx rfl (hb hby at_69) ?_
      show Steps p.tables e below (T10.setTop (mkF m 70 _ [(.int 1)])) target
      refine XS.goto X10.here hx rfl (pc0 := 70) (pc' := 74) rfl (hb hby at_70) (by decide) (by decide) ?_
      exact kt
    refine Go.ret X10 (v := some (.int 1)) (fun h => by rw [hret] at h; cases h) hlk (fun fs hr => retN X10 hx (t := .boolean) hret (by simp) (hb hby at_74) hr) ?_ (by decide) (by decide)
    show Q0 Z p0 wv clv w0 w1 w2 w3 h0 n0 _ T10.heap _
    rw [eq10]
    exact ⟨rfl, N10, K8⟩
  · have hk_ := hk
    rw [hk]
    show Go _ _ _ _ _ _ _ (s₁.setTop (mkF m 3 _ [(.int 2)]))
    refine Go.st (t' := s₁.setTop (mkF m 37 #[.val (.int p0), .val (.int 2), .val (.int 3), .unset, .unset] [])) (fun target kt => ?_) ?_
    · refine XS.istoreN X0.here hx rfl (hb hby at_3) rfl (l' := #[.val (.int p0), .val (.int 2), .unset, .unset, .unset]) rfl ?_
      show Steps p.tables e below (s₁.setTop (mkF m 4 _ [])) target
      refine XS.iloadN X0.here hx rfl (hb hby at_4) rfl ?_
      show Steps p.tables e below (s₁.setTop (mkF m 5 _ [(.int 2)])) target
      refine XS.iconst X0.here hx rfl (hb hby at_5) ?_
      show Steps p.tables e below (s₁.setTop (mkF m 6 _ [(.int 1), (.int 2)])) target
      refine XS.iadd X0.here hx rfl (hb hby at_6) rfl ?_
      show Steps p.tables e below (s₁.setTop (mkF m 7 _ [(.int 3)])) target
      refine XS.i2b X0.here hx rfl (hb hby at_7) rfl ?_
      show Steps p.tables e below (s₁.setTop (mkF m 8 _ [(.int 3)])) target
      refine XS.istoreN X0.here hx rfl (hb hby at_8) rfl (l' := #[.val (.int p0), .val (.int 2), .val (.int 3), .unset, .unset]) rfl ?_
      show Steps p.tables e below (s₁.setTop (mkF m 9 _ [])) target
      refine XS.iloadN X0.here hx rfl (hb hby at_9) rfl ?_
      show Steps p.tables e below (s₁.setTop (mkF m 10 _ [(.int 2)])) target
      refine XS.ifYes X0.here hx rfl (pc0 := 10) (pc' := 20) rfl (hb hby at_10) rfl ((if0 _ _).trans (feq (by decide : ¬ ((2 : Int32) = (0 : Int32)))).2) (by decide) (by decide) ?_
      show Steps p.tables e below (s₁.setTop (mkF m 20 _ [])) target
      refine XS.iloadN X0.here hx rfl (hb hby at_20) rfl ?_
      show Steps p.tables e below (s₁.setTop (mkF m 21 _ [(.int 2)])) target
      refine XS.iconst X0.here hx rfl (hb hby at_21) ?_
      show Steps p.tables e below (s₁.setTop (mkF m 22 _ [(.int 1), (.int 2)])) target
      refine XS.icmpYes X0.here hx rfl (pc0 := 22) (pc' := 32) rfl (hb hby at_22) rfl (feq (by decide : ¬ ((2 : Int32) = (1 : Int32)))).2 (by decide) (by decide) ?_
      show Steps p.tables e below (s₁.setTop (mkF m 32 _ [])) target
      refine XS.iloadN X0.here hx rfl (hb hby at_32) rfl ?_
      show Steps p.tables e below (s₁.setTop (mkF m 33 _ [(.int 2)])) target
      refine XS.iconst X0.here hx rfl (hb hby at_33) ?_
      show Steps p.tables e below (s₁.setTop (mkF m 34 _ [(.int 2), (.int 2)])) target
      refine XS.icmpNo X0.here hx rfl (hb hby at_34) rfl (teq (by decide : (2 : Int32) = (2 : Int32))).2 ?_
      exact kt
    obtain ⟨T11, X11, e11, st11⟩ := getS2 X0 hx hZ hown (host := "") (Or.inl (hw _ tw32)) Via.refl e0 (S_ALTERNATIVE.ext O0.2) (g := (mkF m 37 #[.val (.int p0), .val (.int 2), .val (.int 3), .unset, .unset] [])) rfl (hb hby at_37)
    refine Go.st st11 ?_
    show Go _ _ _ _ _ _ _ (T11.setTop (mkF m 40 _ [(.ref w2)]))
    refine Go.st (t' := T11.setTop (mkF m 49 #[.val (.int p0), .val (.int 2), .val (.int 3), .val (.ref w2), .unset] [(.int 3)])) (fun target kt => ?_) ?_
    · refine XS.astoreN X11.here hx rfl (hb hby at_40) rfl rfl (l' := #[.val (.int p0), .val (.int 2), .val (.int 3), .val (.ref w2), .unset]) rfl ?_
      show Steps p.tables e below (T11.setTop (mkF m 41 _ [])) target
      refine XS.goto X11.here hx rfl (pc0 := 41) (pc' := 48) rfl (hb hby at_41) (by decide) (by decide) ?_
      show Steps p.tables e below (T11.setTop (mkF m 48 _ [])) target
      refine XS.iloadN X11.here hx rfl (hb hby at_48) rfl ?_
      exact kt
    obtain ⟨_, _, ⟨T12, L12, k12, n12⟩, -, X12, ⟨Lc12, hQ12, l12, y12, z12⟩, st12⟩ := Jvm.LawKit.callS X11 hx (y := (⟨"com/example/mooring/mooring/Change$Event", "ofCode", "(B)Lcom/example/mooring/mooring/Change$Event;"⟩ : MethodName)) hown (mvT hZ (hw _ tw3)) (mvT hZ (hw _ tw4)) (mvT hZ (hw _ tw1)) (mvT hZ (hw _ tw5)) (by decide) (backOf (W := 0) (rm1_2 l Z a0 hw [] wv clv w0 w1 w2 w3 h0 n0 (Nat.le_trans Z0 K0.1) O0 S_VALUES A_wv E_wv FC Sv Mv F_w0 hin0 hat0 F_w1 hin1 hat1 F_w2 hin2 hat2 ) hZ (hw _ tw5) (hw _ tw1) (by decide) (by decide)) (g := (mkF m 49 #[.val (.int p0), .val (.int 2), .val (.int 3), .val (.ref w2), .unset] [(.int 3)])) rfl (by rw [hml]; rfl) (argsL := [(.int 3)]) (rest := []) (lenOf pd1 rfl) rfl (by show 2 * 0 + _ ≤ _; exact Nat.le_of_eq rfl) (hb hby at_49) (fun _ _ => ⟨rfl, e11, (by decide : 0 + 1 ≤ _), (by decide : 0 + 4 ≤ _)⟩)
    dsimp only [Pt.U, Pt.locs, Pt.cells, Pt.slots] at X12 l12 y12 z12 st12 hQ12
    subst l12 y12 z12
    obtain ⟨rfl, Nq12, Kq12⟩ := hQ12
    have N12 := Fr.app N0 Nq12
    have K13 := K0.trans Kq12 all0
    have O14 := O0.keep Kq12 all0
    refine Go.st st12 ?_
    show Go _ _ _ _ _ _ _ (T12.setTop (mkF m 52 _ [(.ref w2)]))
    refine Go.st (t' := T12.setTop (mkF m 62 #[.val (.int p0), .val (.int 2), .val (.int 3), .val (.ref w2), .val (.ref w2)] [(.ref w2)])) (fun target kt => ?_) ?_
    · refine XS.astore X12.here hx rfl (hb hby at_52) rfl rfl (l' := #[.val (.int p0), .val (.int 2), .val (.int 3), .val (.ref w2), .val (.ref w2)]) rfl ?_
      show Steps p.tables e below (T12.setTop (mkF m 54 _ [])) target
      refine XS.aload X12.here hx rfl (hb hby at_54) rfl rfl ?_
      show Steps p.tables e below (T12.setTop (mkF m 56 _ [(.ref w2)])) target
      refine XS.aloadN X12.here hx rfl (hb hby at_56) rfl rfl ?_
      show Steps p.tables e below (T12.setTop (mkF m 57 _ [(.ref w2), (.ref w2)])) target
      refine Jvm.RoadKit.acmp (g := (mkF m 57 #[.val (.int p0), .val (.int 2), .val (.int 3), .val (.ref w2), .val (.ref w2)] [(.ref w2), (.ref w2)])) X12 hx rfl rfl rfl (pc0 := 57) (pc' := 60) (same := true) rfl (hb hby at_57) rfl (decide_eq_true rfl) (by decide) (by decide) ?_
      show Steps p.tables e below (T12.setTop (mkF m 60 _ [])) target
      refine XS.aload X12.here hx rfl (hb hby at_60) rfl rfl ?_
      exact kt
    obtain ⟨cq15, kq15, q15a, q15b, q15c⟩ := isOf hZ rfl (E_w2.ext O14.2)
    obtain ⟨_, _, ⟨T15, L15, k15, n15⟩, -, X15, ⟨Lc15, hQ15, l15, y15, z15⟩, st15⟩ := X12.virtualBack hx (y := (⟨"com/example/mooring/mooring/Change$Event", "code", "()B"⟩ : MethodName)) (z := (⟨"com/example/mooring/mooring/Change$Event", "code", "()B"⟩ : MethodName)) hown (mvT hZ (hw _ tw26)) (mvT hZ (hw _ tw27)) (notFace_of_selects (args := #[]) (mvT hZ (hw _ tw29))) (mvT hZ (hw _ tw29)) (mvT hZ (hw _ tw28)) (by decide) (backOf (W := 0) (rm3_2 l Z a0 hw [] w2 w0 w1 w3 T12.heap n0 (Nat.le_trans Z0 K13.1) O14 F_w2 ) hZ (hw _ tw30) (hw _ tw1) (by decide) (by decide)) q15a q15c (g := (mkF m 62 #[.val (.int p0), .val (.int 2), .val (.int 3), .val (.ref w2), .val (.ref w2)] [(.ref w2)])) rfl (by rw [hml]; rfl) (Steps.refl _) (argsL := []) (rest := []) (lenOf pd2 rfl) rfl (by show 2 * 0 + _ ≤ _; exact Nat.le_of_eq rfl) (hb hby at_62) (fun _ _ => ⟨rfl, rfl, (by decide : 1 + 0 ≤ _), (by decide : 4 + 0 ≤ _)⟩)
    dsimp only [Pt.U, Pt.locs, Pt.cells, Pt.slots] at X15 l15 y15 z15 st15 hQ15
    subst l15 y15 z15
    obtain ⟨rfl, Nq15, eq15⟩ := hQ15
    have N15 := Fr.app N12 Nq15
    refine Go.by st15 ?_
    show Go _ _ _ _ _ _ _ (T15.setTop (mkF m 65 _ [(.int 3)]))
    refine Go.st (t' := T15.setTop (mkF m 74 #[.val (.int p0), .val (.int 2), .val (.int 3), .val (.ref w2), .val (.ref w2)] [(.int 1)])) (fun target kt => ?_) ?_
    · refine XS.iloadN X15.here hx rfl (hb hby at_65) rfl ?_
      show Steps p.tables e below (T15.setTop (mkF m 66 _ [(.int 3), (.int 3)])) target
      refine XS.icmpNo X15.here hx rfl (hb hby at_66) rfl (teq (by decide : (3 : Int32) = (3 : Int32))).2 ?_
      show Steps p.tables e below (T15.setTop (mkF m 69 _ [])) target
      refine XS.iconst X15.here hx rfl (hb hby at_69) ?_
      show Steps p.tables e below (T15.setTop (mkF m 70 _ [(.int 1)])) target
      refine XS.goto X15.here hx rfl (pc0 := 70) (pc' := 74) rfl (hb hby at_70) (by decide) (by decide) ?_
      exact kt
    refine Go.ret X15 (v := some (.int 1)) (fun h => by rw [hret] at h; cases h) hlk (fun fs hr => retN X15 hx (t := .boolean) hret (by simp) (hb hby at_74) hr) ?_ (by decide) (by decide)
    show Q0 Z p0 wv clv w0 w1 w2 w3 h0 n0 _ T15.heap _
    rw [eq15]
    exact ⟨rfl, N15, K13⟩
  · have hk_ := hk
    rw [hk]
    show Go _ _ _ _ _ _ _ (s₁.setTop (mkF m 3 _ [(.int 3)]))
    refine Go.st (t' := s₁.setTop (mkF m 44 #[.val (.int p0), .val (.int 3), .val (.int 4), .unset, .unset] [])) (fun target kt => ?_) ?_
    · refine XS.istoreN X0.here hx rfl (hb hby at_3) rfl (l' := #[.val (.int p0), .val (.int 3), .unset, .unset, .unset]) rfl ?_
      show Steps p.tables e below (s₁.setTop (mkF m 4 _ [])) target
      refine XS.iloadN X0.here hx rfl (hb hby at_4) rfl ?_
      show Steps p.tables e below (s₁.setTop (mkF m 5 _ [(.int 3)])) target
      refine XS.iconst X0.here hx rfl (hb hby at_5) ?_
      show Steps p.tables e below (s₁.setTop (mkF m 6 _ [(.int 1), (.int 3)])) target
      refine XS.iadd X0.here hx rfl (hb hby at_6) rfl ?_
      show Steps p.tables e below (s₁.setTop (mkF m 7 _ [(.int 4)])) target
      refine XS.i2b X0.here hx rfl (hb hby at_7) rfl ?_
      show Steps p.tables e below (s₁.setTop (mkF m 8 _ [(.int 4)])) target
      refine XS.istoreN X0.here hx rfl (hb hby at_8) rfl (l' := #[.val (.int p0), .val (.int 3), .val (.int 4), .unset, .unset]) rfl ?_
      show Steps p.tables e below (s₁.setTop (mkF m 9 _ [])) target
      refine XS.iloadN X0.here hx rfl (hb hby at_9) rfl ?_
      show Steps p.tables e below (s₁.setTop (mkF m 10 _ [(.int 3)])) target
      refine XS.ifYes X0.here hx rfl (pc0 := 10) (pc' := 20) rfl (hb hby at_10) rfl ((if0 _ _).trans (feq (by decide : ¬ ((3 : Int32) = (0 : Int32)))).2) (by decide) (by decide) ?_
      show Steps p.tables e below (s₁.setTop (mkF m 20 _ [])) target
      refine XS.iloadN X0.here hx rfl (hb hby at_20) rfl ?_
      show Steps p.tables e below (s₁.setTop (mkF m 21 _ [(.int 3)])) target
      refine XS.iconst X0.here hx rfl (hb hby at_21) ?_
      show Steps p.tables e below (s₁.setTop (mkF m 22 _ [(.int 1), (.int 3)])) target
      refine XS.icmpYes X0.here hx rfl (pc0 := 22) (pc' := 32) rfl (hb hby at_22) rfl (feq (by decide : ¬ ((3 : Int32) = (1 : Int32)))).2 (by decide) (by decide) ?_
      show Steps p.tables e below (s₁.setTop (mkF m 32 _ [])) target
      refine XS.iloadN X0.here hx rfl (hb hby at_32) rfl ?_
      show Steps p.tables e below (s₁.setTop (mkF m 33 _ [(.int 3)])) target
      refine XS.iconst X0.here hx rfl (hb hby at_33) ?_
      show Steps p.tables e below (s₁.setTop (mkF m 34 _ [(.int 2), (.int 3)])) target
      refine XS.icmpYes X0.here hx rfl (pc0 := 34) (pc' := 44) rfl (hb hby at_34) rfl (feq (by decide : ¬ ((3 : Int32) = (2 : Int32)))).2 (by decide) (by decide) ?_
      exact kt
    obtain ⟨T16, X16, e16, st16⟩ := getS2 X0 hx hZ hown (host := "") (Or.inl (hw _ tw31)) Via.refl e0 (S_WITHDRAWN.ext O0.2) (g := (mkF m 44 #[.val (.int p0), .val (.int 3), .val (.int 4), .unset, .unset] [])) rfl (hb hby at_44)
    refine Go.st st16 ?_
    show Go _ _ _ _ _ _ _ (T16.setTop (mkF m 47 _ [(.ref w3)]))
    refine Go.st (t' := T16.setTop (mkF m 49 #[.val (.int p0), .val (.int 3), .val (.int 4), .val (.ref w3), .unset] [(.int 4)])) (fun target kt => ?_) ?_
    · refine XS.astoreN X16.here hx rfl (hb hby at_47) rfl rfl (l' := #[.val (.int p0), .val (.int 3), .val (.int 4), .val (.ref w3), .unset]) rfl ?_
      show Steps p.tables e below (T16.setTop (mkF m 48 _ [])) target
      refine XS.iloadN X16.here hx rfl (hb hby at_48) rfl ?_
      exact kt
    obtain ⟨_, _, ⟨T17, L17, k17, n17⟩, -, X17, ⟨Lc17, hQ17, l17, y17, z17⟩, st17⟩ := Jvm.LawKit.callS X16 hx (y := (⟨"com/example/mooring/mooring/Change$Event", "ofCode", "(B)Lcom/example/mooring/mooring/Change$Event;"⟩ : MethodName)) hown (mvT hZ (hw _ tw3)) (mvT hZ (hw _ tw4)) (mvT hZ (hw _ tw1)) (mvT hZ (hw _ tw5)) (by decide) (backOf (W := 0) (rm1_3 l Z a0 hw [] wv clv w0 w1 w2 w3 h0 n0 (Nat.le_trans Z0 K0.1) O0 S_VALUES A_wv E_wv FC Sv Mv F_w0 hin0 hat0 F_w1 hin1 hat1 F_w2 hin2 hat2 F_w3 hin3 hat3 ) hZ (hw _ tw5) (hw _ tw1) (by decide) (by decide)) (g := (mkF m 49 #[.val (.int p0), .val (.int 3), .val (.int 4), .val (.ref w3), .unset] [(.int 4)])) rfl (by rw [hml]; rfl) (argsL := [(.int 4)]) (rest := []) (lenOf pd1 rfl) rfl (by show 2 * 0 + _ ≤ _; exact Nat.le_of_eq rfl) (hb hby at_49) (fun _ _ => ⟨rfl, e16, (by decide : 0 + 1 ≤ _), (by decide : 0 + 4 ≤ _)⟩)
    dsimp only [Pt.U, Pt.locs, Pt.cells, Pt.slots] at X17 l17 y17 z17 st17 hQ17
    subst l17 y17 z17
    obtain ⟨rfl, Nq17, Kq17⟩ := hQ17
    have N17 := Fr.app N0 Nq17
    have K18 := K0.trans Kq17 all0
    have O19 := O0.keep Kq17 all0
    refine Go.st st17 ?_
    show Go _ _ _ _ _ _ _ (T17.setTop (mkF m 52 _ [(.ref w3)]))
    refine Go.st (t' := T17.setTop (mkF m 62 #[.val (.int p0), .val (.int 3), .val (.int 4), .val (.ref w3), .val (.ref w3)] [(.ref w3)])) (fun target kt => ?_) ?_
    · refine XS.astore X17.here hx rfl (hb hby at_52) rfl rfl (l' := #[.val (.int p0), .val (.int 3), .val (.int 4), .val (.ref w3), .val (.ref w3)]) rfl ?_
      show Steps p.tables e below (T17.setTop (mkF m 54 _ [])) target
      refine XS.aload X17.here hx rfl (hb hby at_54) rfl rfl ?_
      show Steps p.tables e below (T17.setTop (mkF m 56 _ [(.ref w3)])) target
      refine XS.aloadN X17.here hx rfl (hb hby at_56) rfl rfl ?_
      show Steps p.tables e below (T17.setTop (mkF m 57 _ [(.ref w3), (.ref w3)])) target
      refine Jvm.RoadKit.acmp (g := (mkF m 57 #[.val (.int p0), .val (.int 3), .val (.int 4), .val (.ref w3), .val (.ref w3)] [(.ref w3), (.ref w3)])) X17 hx rfl rfl rfl (pc0 := 57) (pc' := 60) (same := true) rfl (hb hby at_57) rfl (decide_eq_true rfl) (by decide) (by decide) ?_
      show Steps p.tables e below (T17.setTop (mkF m 60 _ [])) target
      refine XS.aload X17.here hx rfl (hb hby at_60) rfl rfl ?_
      exact kt
    obtain ⟨cq20, kq20, q20a, q20b, q20c⟩ := isOf hZ rfl (E_w3.ext O19.2)
    obtain ⟨_, _, ⟨T20, L20, k20, n20⟩, -, X20, ⟨Lc20, hQ20, l20, y20, z20⟩, st20⟩ := X17.virtualBack hx (y := (⟨"com/example/mooring/mooring/Change$Event", "code", "()B"⟩ : MethodName)) (z := (⟨"com/example/mooring/mooring/Change$Event", "code", "()B"⟩ : MethodName)) hown (mvT hZ (hw _ tw26)) (mvT hZ (hw _ tw27)) (notFace_of_selects (args := #[]) (mvT hZ (hw _ tw29))) (mvT hZ (hw _ tw29)) (mvT hZ (hw _ tw28)) (by decide) (backOf (W := 0) (rm3_3 l Z a0 hw [] w3 w0 w1 w2 T17.heap n0 (Nat.le_trans Z0 K18.1) O19 F_w3 ) hZ (hw _ tw30) (hw _ tw1) (by decide) (by decide)) q20a q20c (g := (mkF m 62 #[.val (.int p0), .val (.int 3), .val (.int 4), .val (.ref w3), .val (.ref w3)] [(.ref w3)])) rfl (by rw [hml]; rfl) (Steps.refl _) (argsL := []) (rest := []) (lenOf pd2 rfl) rfl (by show 2 * 0 + _ ≤ _; exact Nat.le_of_eq rfl) (hb hby at_62) (fun _ _ => ⟨rfl, rfl, (by decide : 1 + 0 ≤ _), (by decide : 4 + 0 ≤ _)⟩)
    dsimp only [Pt.U, Pt.locs, Pt.cells, Pt.slots] at X20 l20 y20 z20 st20 hQ20
    subst l20 y20 z20
    obtain ⟨rfl, Nq20, eq20⟩ := hQ20
    have N20 := Fr.app N17 Nq20
    refine Go.by st20 ?_
    show Go _ _ _ _ _ _ _ (T20.setTop (mkF m 65 _ [(.int 4)]))
    refine Go.st (t' := T20.setTop (mkF m 74 #[.val (.int p0), .val (.int 3), .val (.int 4), .val (.ref w3), .val (.ref w3)] [(.int 1)])) (fun target kt => ?_) ?_
    · refine XS.iloadN X20.here hx rfl (hb hby at_65) rfl ?_
      show Steps p.tables e below (T20.setTop (mkF m 66 _ [(.int 4), (.int 4)])) target
      refine XS.icmpNo X20.here hx rfl (hb hby at_66) rfl (teq (by decide : (4 : Int32) = (4 : Int32))).2 ?_
      show Steps p.tables e below (T20.setTop (mkF m 69 _ [])) target
      refine XS.iconst X20.here hx rfl (hb hby at_69) ?_
      show Steps p.tables e below (T20.setTop (mkF m 70 _ [(.int 1)])) target
      refine XS.goto X20.here hx rfl (pc0 := 70) (pc' := 74) rfl (hb hby at_70) (by decide) (by decide) ?_
      exact kt
    refine Go.ret X20 (v := some (.int 1)) (fun h => by rw [hret] at h; cases h) hlk (fun fs hr => retN X20 hx (t := .boolean) hret (by simp) (hb hby at_74) hr) ?_ (by decide) (by decide)
    show Q0 Z p0 wv clv w0 w1 w2 w3 h0 n0 _ T20.heap _
    rw [eq20]
    exact ⟨rfl, N20, K18⟩
theorem tw2 : (Jvm.Cond.laysStatic "com/example/mooring/mooring/Change$Event" "BOUND" "Lcom/example/mooring/mooring/Change$Event;") ∈ tables_1 := List.mem_of_getElem? (i := 2) rfl
theorem tw18 : (Jvm.Cond.laysStatic "com/example/mooring/mooring/Change$Event" "MOVED" "Lcom/example/mooring/mooring/Change$Event;") ∈ tables_1 := List.mem_of_getElem? (i := 18) rfl
theorem tw19 : (Jvm.Cond.laysStatic "com/example/mooring/mooring/Change$Event" "ALTERNATIVE" "Lcom/example/mooring/mooring/Change$Event;") ∈ tables_1 := List.mem_of_getElem? (i := 19) rfl
theorem tw20 : (Jvm.Cond.laysStatic "com/example/mooring/mooring/Change$Event" "WITHDRAWN" "Lcom/example/mooring/mooring/Change$Event;") ∈ tables_1 := List.mem_of_getElem? (i := 20) rfl
theorem tw10 : (Jvm.Cond.laysStatic "com/example/mooring/mooring/Change$Event" "$VALUES" "[Lcom/example/mooring/mooring/Change$Event;") ∈ tables_1 := List.mem_of_getElem? (i := 10) rfl
theorem comes_1 {Post : Tables → Env → Array Value → State → Outcome → State → Prop} (hpost : ∀ tb e args s v u, (limb_1_1.after args s (.returned v) u = true ∧ limb_1_2.after args s (.returned v) u = true ∧ True) → FrameEnd s (.returned v) u (Jvm.fieldLocs frame_1_writes args s ++ Jvm.arrayLocs frame_1_arrays args s ++ Jvm.staticLocs frame_1_statics s) 16 128 → Post tb e args s (.returned v) u) :
    ArmFor flags0 classFile x code maxLocals ret World_1 tables_1 room_1 Calls_1 rest_1 Pre_1 Post := by
  intro l hfl _ _ p e ha hc hk s m args below hf hA hF happ hP
  obtain ⟨hcalls, hrest, hpre⟩ := hP
  obtain ⟨-, -, -, hnamed, -, -, -, hat⟩ := (Spec.applies_iff hf).mp happ
  obtain ⟨hg, hn⟩ := and_e (Cond.before_iff.mp (show (Jvm.Cond.and given_1 narrow_1).before args s = true from hpre))
  obtain ⟨g1, g2⟩ := and_e hg
  obtain ⟨w0_, rfl⟩ : ∃ w0_ : Value, args = #[w0_] := by
    have hs : args.size = 1 := by simpa [Cond.value, given_1] using g1
    obtain ⟨L⟩ := args
    match L, hs with
    | [w0_], _ => exact ⟨w0_, rfl⟩
  have hw := fun d (hd : d ∈ tables_1) => atoms_spec (ws := Jvm.Cond.code x code maxLocals ret :: tables_1) hat d (List.mem_cons_of_mem _ hd)
  have hfit : Fit s := fun {y c} hc i hi => by
    obtain ⟨ha, rfl⟩ := Array.getElem?_eq_some_iff.mp hc
    have q := List.all_eq_true.mp ((Array.all_eq_true_iff_forall_mem.mp hF) _ (Array.getElem_mem ha)) i (List.mem_range.mpr hi)
    simpa [Array.getElem?_eq_getElem hi] using q
  obtain ⟨i0, ei0⟩ := is_v g2
  obtain rfl : w0_ = (.int i0) := Option.some.inj ei0
  obtain ⟨n_b0, hn⟩ := and_e hn
  obtain ⟨n_va, hn⟩ := and_e hn
  obtain ⟨n_ve, hn⟩ := and_e hn
  obtain ⟨n_vl, hn⟩ := and_e hn
  obtain ⟨n_v0, hn⟩ := and_e hn
  obtain ⟨n_b1, hn⟩ := and_e hn
  obtain ⟨n_v1, hn⟩ := and_e hn
  obtain ⟨n_b2, hn⟩ := and_e hn
  obtain ⟨n_v2, hn⟩ := and_e hn
  obtain ⟨n_b3, hn⟩ := and_e hn
  obtain ⟨n_v3, hn⟩ := and_e hn
  obtain ⟨n_c0, hn⟩ := and_e hn
  obtain ⟨n_c1, hn⟩ := and_e hn
  obtain ⟨n_c2, n_c3⟩ := and_e hn
  obtain ⟨w0, ew0⟩ := exa_v n_b0
  have E_w0 := Exa.start ew0 n_b0
  have S_BOUND := Sta.start ew0 (Or.inr ⟨(hw _ tw1), (hw _ tw2)⟩)
  obtain ⟨w1, ew1⟩ := exa_v n_b1
  have E_w1 := Exa.start ew1 n_b1
  have S_MOVED := Sta.start ew1 (Or.inr ⟨(hw _ tw1), (hw _ tw18)⟩)
  obtain ⟨w2, ew2⟩ := exa_v n_b2
  have E_w2 := Exa.start ew2 n_b2
  have S_ALTERNATIVE := Sta.start ew2 (Or.inr ⟨(hw _ tw1), (hw _ tw19)⟩)
  obtain ⟨w3, ew3⟩ := exa_v n_b3
  have E_w3 := Exa.start ew3 n_b3
  have S_WITHDRAWN := Sta.start ew3 (Or.inr ⟨(hw _ tw1), (hw _ tw20)⟩)
  obtain ⟨wv, ewv⟩ := arr_v n_va
  have S_VALUES := Sta.start ewv (Or.inr ⟨(hw _ tw1), (hw _ tw10)⟩)
  obtain ⟨clv, A_wv⟩ := Arr.start ewv n_va
  have E_wv := Exa.start ewv n_ve
  have FC := FitC.start hfit A_wv
  obtain ⟨Sv, Mv⟩ := own_len (own_eqi n_vl) ewv A_wv.1
  obtain ⟨hin0, hat0⟩ := elem_in (own_eqr n_v0 ew0) ewv (Term.int_eval (0 : Int32)) A_wv.1
  have F_w0 := Fld.start ((fld_at ew0).symm.trans (own_eqi n_c0))
  obtain ⟨hin1, hat1⟩ := elem_in (own_eqr n_v1 ew1) ewv (Term.int_eval (1 : Int32)) A_wv.1
  have F_w1 := Fld.start ((fld_at ew1).symm.trans (own_eqi n_c1))
  obtain ⟨hin2, hat2⟩ := elem_in (own_eqr n_v2 ew2) ewv (Term.int_eval (2 : Int32)) A_wv.1
  have F_w2 := Fld.start ((fld_at ew2).symm.trans (own_eqi n_c2))
  obtain ⟨hin3, hat3⟩ := elem_in (own_eqr n_v3 ew3) ewv (Term.int_eval (3 : Int32)) A_wv.1
  have F_w3 := Fld.start ((fld_at ew3).symm.trans (own_eqi n_c3))
  obtain ⟨n, o, h1, h2, h3, _, L, rfl, ⟨rfl, N, -⟩, hq⟩ := rm0 l s _ hw tables_1 i0 wv clv w0 w1 w2 w3 s.heap s.heap.size (Nat.le_refl _) (Old.start s) S_VALUES A_wv E_wv FC Sv Mv E_w0 F_w0 hin0 hat0 E_w1 F_w1 hin1 hat1 E_w2 F_w2 hin2 hat2 E_w3 F_w3 hin3 hat3 S_BOUND S_MOVED S_ALTERNATIVE S_WITHDRAWN p e ha hc hk s m _ below hf ((Spec.applies_iff_loose hf).mp happ).1 ⟨rfl, State.Warmed39.refl s, rfl⟩ trivial
  refine ⟨n, _, h1, h2, h3, hpost _ _ _ _ _ _ ⟨Cond.after_iff.mpr rfl, Cond.after_iff.mpr (eq_i res_at (Term.int_eval (1)) rfl), trivial⟩ ⟨hq.1, hq.2.1, (hq.2.2.sift fun y hy => Or.inr (N y hy)).mono (by decide) (by decide)⟩⟩
theorem main_1_1 : Claimed_1_1 := comes_1 fun _ _ _ _ _ _ h hF => ⟨h.1, hF⟩
theorem main_1_2 : Claimed_1_2 := comes_1 fun _ _ _ _ _ _ h hF => ⟨h.2.1, hF⟩
end Jvm.Pilot.@@N@@
/-! witness -/
namespace Jvm.Pilot.@@N@@
open Jvm Jvm.ClassFile Sem Op Lib Jvm.Free Jvm.Stand Jvm.Pilot.@@N@@.Jvm.D
/-! MADE BY PROGRAM (witnessworld.py) out of the Statement's table words and the real class files: 13 classes; the members and pool entries that the words name. The judged class is class 1, her method 1. -/
namespace start1
open Jvm.ClassFile
def u (s : String) : CpInfo := .utf8 (stringToUtf16 s)
/-- a pool by its gaps: so many unusable entries, then the entry; so many at the end -/
def gap : Nat → List CpInfo → List CpInfo
  | 0, r => r
  | n + 1, r => .unusable :: gap n r
def poolList (es : List (Nat × CpInfo)) (last : Nat) : List CpInfo := es.foldr (fun e r => gap e.1 (e.2 :: r)) (gap last [])
def pool (es : List (Nat × CpInfo)) (last : Nat) : Array CpInfo := ⟨poolList es last⟩
def fileOf (pool : Array CpInfo) (this : Nat) (attrs : Array Attribute := #[]) (ms : Array MethodInfo := #[]) (fl : Nat := 33) (sup : Nat := 0) (ifs : Array Nat := #[]) (fds : Array FieldInfo := #[]) : ClassFile where
  minorVersion := 0
  majorVersion := 65
  constantPool := pool
  accessFlags := fl
  thisClass := this
  superClass := sup
  interfaces := ifs
  fields := fds
  methods := ms
  attributes := attrs
def plain (name : String) (sup : Option ClassId) : Class where
  name := name
  kind := .ordinary
  loader := none
  accessFlags := 33
  super := sup
  interfaces := #[]
  cf := none
  fields := #[]
  methods := #[]
  instanceTypes := #[]
  staticTypes := #[]
  resolved := #[]
  callSites := []
  init := .initialized
  statics := none
  mirror := none

def pool0 : Array CpInfo := pool [(5, u "<init>"), (0, u "()V"), (1, .class_ 10), (1, u "java/lang/Object"), (85, u "clone"), (0, u "()Ljava/lang/Object;")] 26

def k0m0 : Method := { name := "<init>", desc := "()V", sig := { parameters := [], returnType := none }, accessFlags := 1, code := none }
def k0m1 : Method := { name := "clone", desc := "()Ljava/lang/Object;", sig := { parameters := [], returnType := some (.object "java/lang/Object") }, accessFlags := 260, code := none }
/-- java/lang/Object -/
def k0 : Class := { plain "java/lang/Object" none with
  accessFlags := 33
  interfaces := #[]
  cf := some (fileOf pool0 8 #[] #[{ accessFlags := 1, nameIndex := 5, descriptorIndex := 6, attributes := #[] }, { accessFlags := 260, nameIndex := 96, descriptorIndex := 97, attributes := #[] }] 33 0 #[] #[])
  fields := #[]
  methods := #[k0m0, k0m1]
  instanceTypes := #[]
  staticTypes := #[]
  resolved := Array.replicate 124 none
  statics := none }

def pool1 : Array CpInfo := pool [(2, .class_ 4), (1, u "java/lang/Object"), (0, u "<init>"), (0, u "()V"), (0, .fieldref 8 9), (0, .class_ 10), (0, .nameAndType 11 12), (0, u "com/example/mooring/mooring/Change$Event"), (0, u "BOUND"), (0, u "Lcom/example/mooring/mooring/Change$Event;"), (0, .fieldref 8 14), (0, .nameAndType 15 12), (0, u "MOVED"), (0, .fieldref 8 17), (0, .nameAndType 18 12), (0, u "ALTERNATIVE"), (0, .fieldref 8 20), (0, .nameAndType 21 12), (0, u "WITHDRAWN"), (0, .methodref 8 23), (0, .nameAndType 24 25), (0, u "ofCode"), (0, u "(B)Lcom/example/mooring/mooring/Change$Event;"), (0, .methodref 8 27), (0, .nameAndType 28 29), (0, u "code"), (0, u "()B"), (0, .class_ 31), (0, u "com/example/mooring/mooring/EventOfCodePinLaw"), (2, u "law"), (0, u "(I)Z")] 7

def k1m0 : Method := { name := "<init>", desc := "()V", sig := { parameters := [], returnType := none }, accessFlags := 1, code := none }
def k1c1 : Code := { maxStack := 2, maxLocals := 5, code := code, exceptionTable := #[], attributes := #[] }
def k1m1 : Method := { name := "law", desc := "(I)Z", sig := { parameters := [.int], returnType := some .boolean }, accessFlags := 9, code := some k1c1 }
/-- com/example/mooring/mooring/EventOfCodePinLaw -/
def k1 : Class := { plain "com/example/mooring/mooring/EventOfCodePinLaw" (some 0) with
  accessFlags := 49
  interfaces := #[]
  cf := some (fileOf pool1 30 #[] #[{ accessFlags := 1, nameIndex := 5, descriptorIndex := 6, attributes := #[] }, { accessFlags := 9, nameIndex := 34, descriptorIndex := 35, attributes := #[] }] 49 2 #[] #[])
  fields := #[]
  methods := #[k1m0, k1m1]
  instanceTypes := #[]
  staticTypes := #[]
  resolved := Array.replicate 43 none
  statics := none }

def pool2 : Array CpInfo := pool [(1, .class_ 2), (0, u "java/lang/constant/Constable"), (0, .class_ 4), (0, u "java/lang/Object")] 6

/-- java/lang/constant/Constable -/
def k2 : Class := { plain "java/lang/constant/Constable" (some 0) with
  accessFlags := 1537
  interfaces := #[]
  cf := some (fileOf pool2 1 #[] #[] 1537 3 #[] #[])
  fields := #[]
  methods := #[]
  instanceTypes := #[]
  staticTypes := #[]
  resolved := Array.replicate 11 none
  statics := none }

def pool3 : Array CpInfo := pool [(1, .class_ 2), (0, u "java/lang/Comparable"), (0, .class_ 4), (0, u "java/lang/Object")] 7

/-- java/lang/Comparable -/
def k3 : Class := { plain "java/lang/Comparable" (some 0) with
  accessFlags := 1537
  interfaces := #[]
  cf := some (fileOf pool3 1 #[] #[] 1537 3 #[] #[])
  fields := #[]
  methods := #[]
  instanceTypes := #[]
  staticTypes := #[]
  resolved := Array.replicate 12 none
  statics := none }

def pool4 : Array CpInfo := pool [(1, .class_ 2), (0, u "java/io/Serializable"), (0, .class_ 4), (0, u "java/lang/Object")] 2

/-- java/io/Serializable -/
def k4 : Class := { plain "java/io/Serializable" (some 0) with
  accessFlags := 1537
  interfaces := #[]
  cf := some (fileOf pool4 1 #[] #[] 1537 3 #[] #[])
  fields := #[]
  methods := #[]
  instanceTypes := #[]
  staticTypes := #[]
  resolved := Array.replicate 7 none
  statics := none }

def pool5 : Array CpInfo := pool [(2, .class_ 4), (1, u "java/lang/Enum"), (0, u "name"), (0, u "Ljava/lang/String;"), (2, u "ordinal"), (0, u "I"), (1, .class_ 14), (1, u "java/lang/Object"), (4, u "hash"), (86, .class_ 108), (1, u "java/lang/Enum$EnumDesc"), (2, .class_ 112), (0, u "java/lang/constant/Constable"), (0, .class_ 114), (0, u "java/lang/Comparable"), (0, .class_ 116), (0, u "java/io/Serializable")] 87

/-- java/lang/Enum -/
def k5 : Class := { plain "java/lang/Enum" (some 0) with
  accessFlags := 1057
  interfaces := #[2, 3, 4]
  cf := some (fileOf pool5 2 #[.nestMembers #[106]] #[] 1057 12 #[111, 113, 115] #[{ accessFlags := 18, nameIndex := 5, descriptorIndex := 6, attributes := #[] }, { accessFlags := 18, nameIndex := 9, descriptorIndex := 10, attributes := #[] }, { accessFlags := 2, nameIndex := 19, descriptorIndex := 10, attributes := #[] }])
  fields := #[{ name := "name", type := (.object "java/lang/String"), accessFlags := 18, slot := 0, constantValue := 0 }, { name := "ordinal", type := .int, accessFlags := 18, slot := 1, constantValue := 0 }, { name := "hash", type := .int, accessFlags := 2, slot := 2, constantValue := 0 }]
  methods := #[]
  instanceTypes := #[(.object "java/lang/String"), .int, .int]
  staticTypes := #[]
  resolved := Array.replicate 204 none
  statics := none }

def pool6 : Array CpInfo := pool [(1, .class_ 2), (0, u "com/example/mooring/mooring/Change$Event"), (2, u "BOUND"), (0, u "Lcom/example/mooring/mooring/Change$Event;"), (2, u "MOVED"), (2, u "ALTERNATIVE"), (2, u "WITHDRAWN"), (0, .fieldref 1 17), (0, .nameAndType 18 19), (0, u "$VALUES"), (0, u "[Lcom/example/mooring/mooring/Change$Event;"), (0, .methodref 21 22), (0, .class_ 19), (0, .nameAndType 23 24), (0, u "clone"), (0, u "()Ljava/lang/Object;"), (1, .class_ 28), (1, u "java/lang/Enum"), (8, u "word"), (0, u "Ljava/lang/String;"), (0, .fieldref 1 40), (0, .nameAndType 41 42), (0, u "code"), (0, u "B"), (0, .methodref 1 44), (0, .nameAndType 45 46), (0, u "values"), (0, u "()[Lcom/example/mooring/mooring/Change$Event;"), (33, u "()B"), (0, u "ofCode"), (0, u "(B)Lcom/example/mooring/mooring/Change$Event;"), (7, .class_ 91), (0, u "com/example/mooring/mooring/Change")] 16

def k6c0 : Code := { maxStack := 1, maxLocals := 0, code := prog_6_method_1_code, exceptionTable := #[], attributes := #[] }
def k6m0 : Method := { name := "values", desc := "()[Lcom/example/mooring/mooring/Change$Event;", sig := { parameters := [], returnType := some (.array (.object "com/example/mooring/mooring/Change$Event")) }, accessFlags := 9, code := some k6c0 }
def k6c1 : Code := { maxStack := 1, maxLocals := 1, code := prog_6_method_5_code, exceptionTable := #[], attributes := #[] }
def k6m1 : Method := { name := "code", desc := "()B", sig := { parameters := [], returnType := some .byte }, accessFlags := 0, code := some k6c1 }
def k6c2 : Code := { maxStack := 3, maxLocals := 5, code := prog_6_method_6_code, exceptionTable := #[], attributes := #[] }
def k6m2 : Method := { name := "ofCode", desc := "(B)Lcom/example/mooring/mooring/Change$Event;", sig := { parameters := [.byte], returnType := some (.object "com/example/mooring/mooring/Change$Event") }, accessFlags := 8, code := some k6c2 }
/-- com/example/mooring/mooring/Change$Event -/
def k6 : Class := { plain "com/example/mooring/mooring/Change$Event" (some 5) with
  accessFlags := 16432
  interfaces := #[]
  cf := some (fileOf pool6 1 #[.nestHost 90] #[{ accessFlags := 9, nameIndex := 45, descriptorIndex := 46, attributes := #[] }, { accessFlags := 0, nameIndex := 41, descriptorIndex := 80, attributes := #[] }, { accessFlags := 8, nameIndex := 81, descriptorIndex := 82, attributes := #[] }] 16432 26 #[] #[{ accessFlags := 16409, nameIndex := 5, descriptorIndex := 6, attributes := #[] }, { accessFlags := 16409, nameIndex := 9, descriptorIndex := 6, attributes := #[] }, { accessFlags := 16409, nameIndex := 12, descriptorIndex := 6, attributes := #[] }, { accessFlags := 16409, nameIndex := 15, descriptorIndex := 6, attributes := #[] }, { accessFlags := 18, nameIndex := 37, descriptorIndex := 38, attributes := #[] }, { accessFlags := 18, nameIndex := 41, descriptorIndex := 42, attributes := #[] }, { accessFlags := 4122, nameIndex := 18, descriptorIndex := 19, attributes := #[] }])
  fields := #[{ name := "BOUND", type := (.object "com/example/mooring/mooring/Change$Event"), accessFlags := 16409, slot := 0, constantValue := 0 }, { name := "MOVED", type := (.object "com/example/mooring/mooring/Change$Event"), accessFlags := 16409, slot := 1, constantValue := 0 }, { name := "ALTERNATIVE", type := (.object "com/example/mooring/mooring/Change$Event"), accessFlags := 16409, slot := 2, constantValue := 0 }, { name := "WITHDRAWN", type := (.object "com/example/mooring/mooring/Change$Event"), accessFlags := 16409, slot := 3, constantValue := 0 }, { name := "word", type := (.object "java/lang/String"), accessFlags := 18, slot := 3, constantValue := 0 }, { name := "code", type := .byte, accessFlags := 18, slot := 4, constantValue := 0 }, { name := "$VALUES", type := (.array (.object "com/example/mooring/mooring/Change$Event")), accessFlags := 4122, slot := 4, constantValue := 0 }]
  methods := #[k6m0, k6m1, k6m2]
  instanceTypes := #[(.object "java/lang/String"), .int, .int, (.object "java/lang/String"), .byte]
  staticTypes := #[(.object "com/example/mooring/mooring/Change$Event"), (.object "com/example/mooring/mooring/Change$Event"), (.object "com/example/mooring/mooring/Change$Event"), (.object "com/example/mooring/mooring/Change$Event"), (.array (.object "com/example/mooring/mooring/Change$Event"))]
  resolved := Array.replicate 108 none
  statics := some 0 }

def pool7 : Array CpInfo := pool [(1, .class_ 2), (0, u "java/lang/Cloneable"), (0, .class_ 4), (0, u "java/lang/Object")] 2

/-- java/lang/Cloneable -/
def k7 : Class := { plain "java/lang/Cloneable" (some 0) with
  accessFlags := 1537
  interfaces := #[]
  cf := some (fileOf pool7 1 #[] #[] 1537 3 #[] #[])
  fields := #[]
  methods := #[]
  instanceTypes := #[]
  staticTypes := #[]
  resolved := Array.replicate 7 none
  statics := none }

/-- the primitive byte -/
def k8 : Class := { plain "byte" none with kind := .primitive 'B', accessFlags := 0x411 }
/-- [B -/
def k9 : Class := { plain "[B" (some 0) with kind := .array 8 .byte, interfaces := #[7, 4], accessFlags := 1041 }

/-- the primitive int -/
def k10 : Class := { plain "int" none with kind := .primitive 'I', accessFlags := 0x411 }
/-- [I -/
def k11 : Class := { plain "[I" (some 0) with kind := .array 10 .int, interfaces := #[7, 4], accessFlags := 1041 }

/-- [Lcom/example/mooring/mooring/Change$Event; -/
def k12 : Class := { plain "[Lcom/example/mooring/mooring/Change$Event;" (some 0) with kind := .array 6 (.object "com/example/mooring/mooring/Change$Event"), interfaces := #[7, 4], accessFlags := 1041 }

def heap : Heap := #[{ cls := 6, slots := #[.ref 2, .ref 3, .ref 4, .ref 5, .ref 1], vm := .statics 6 },
  { cls := 12, slots := #[.ref 2, .ref 3, .ref 4, .ref 5], vm := .none },
  { cls := 6, slots := #[.null, .int 0, .int 0, .null, .int 1], vm := .none },
  { cls := 6, slots := #[.null, .int 1, .int 0, .null, .int 2], vm := .none },
  { cls := 6, slots := #[.null, .int 2, .int 0, .null, .int 3], vm := .none },
  { cls := 6, slots := #[.null, .int 3, .int 0, .null, .int 4], vm := .none }]
def classes : Array Class := #[k0, k1, k2, k3, k4, k5, k6, k7, k8, k9, k10, k11, k12]
def interned : List (Array UInt16 × Addr) := []
def slotsUsed : Nat := 29
def theMethod : MethodId := ⟨1, 1⟩
def args0 : Array Value := #[.int 5]
def aboutOver (below : List Frame) : State where
  vm := { classes := classes, interned := interned.toArray }
  heap := heap
  slotsUsed := slotsUsed
  threads := #[{ frames := .invoking theMethod args0 :: below }]
def below0 : List Frame := [.native { method := ⟨0, 0⟩, args := #[] }]
def about1 : State := aboutOver below0
def p0 : Program := .bare "" "" ""
def e0 : Env := launch0.env 0 0 0
theorem w_frames : about1.frames = Frame.invoking theMethod args0 :: below0 := rfl
set_option maxRecDepth 65536 in
theorem w_args : argsFit about1.vm theMethod args0 = true := by decide +kernel
set_option maxRecDepth 65536 in
theorem w_heap : heapFits about1 = true := by decide +kernel
set_option maxRecDepth 65536 in
theorem w_runnable : about1.curStatus? = some .runnable := by decide +kernel
set_option maxRecDepth 65536 in
theorem w_alone : about1.alone = true := by decide +kernel
set_option maxRecDepth 65536 in
theorem w_named : about1.methodNamed? x = some theMethod := by decide +kernel
set_option maxRecDepth 65536 in
theorem w_hears : about1.hears theMethod below0 = true := by decide +kernel
set_option maxRecDepth 65536 in
theorem w_ripe : about1.ripe theMethod args0 below0 = true := by decide +kernel
theorem w_running : about1.status = .running := rfl
set_option maxRecDepth 65536 in
theorem w_room : about1.hasRoom e0.platform room_1 = true :=
  launch0.hasRoom_least _ room_1 (by decide +kernel) (by decide +kernel) (by decide +kernel) (by decide +kernel) (by decide +kernel) (by decide +kernel)
theorem allAtoms_all (ts : List Jvm.Cond) (a : Array Jvm.Value) (st : Jvm.State) : (allAtoms ts).before a st = ts.all (fun c => c.before a st) := by
  induction ts with
  | nil => rfl
  | cons c t ih =>
    show (Jvm.Cond.and c (allAtoms t)).before a st = _
    rw [Jvm.Cond.before_and, ih, List.all_cons]
def words1 : List Jvm.Cond := Jvm.Cond.code x code maxLocals ret :: tables_1
/-- a 'code' word, met by the world's own term for the bytes: nothing is compared byte by byte -/
theorem code_word {y : MethodName} {bytes : ByteArray} {mx : Nat} {rt : Option FieldType} {a : Array Value} {s : State} {m : MethodId} {meth : Method} {c : Code} (h1 : s.methodNamed? y = some m) (h2 : s.vm.method? m = some meth) (h3 : meth.code = some c) (h4 : c.code = bytes)
    (h5 : (c.maxLocals == mx && c.exceptionTable.isEmpty && decide (c.maxStack ≤ mostOperands) && decide (meth.sig.returnType = rt) && !meth.locks && decide (parseMethodDescriptor y.desc = some meth.sig)) = true) : (Jvm.Cond.code y bytes mx rt).before a s = true := by
  simp only [Bool.and_eq_true, beq_iff_eq, Bool.not_eq_true', decide_eq_true_eq] at h5
  obtain ⟨⟨⟨⟨⟨g1, g2⟩, g3⟩, g4⟩, g5⟩, g6⟩ := h5
  simp [Cond.before, Cond.holds, Cond.value, h1, h2, h3, h4, g1, g2, g3, g4, g5, g6]
def isCode : Jvm.Cond → Bool
  | .code _ _ _ _ => true
  | _ => false
theorem all_split {L : List Jvm.Cond} {P : Jvm.Cond → Bool} (h1 : L.all (fun c => isCode c || P c) = true) (h2 : ∀ c ∈ L.filter isCode, P c = true) : L.all P = true := by
  refine List.all_eq_true.mpr fun c hc => ?_
  have h := List.all_eq_true.mp h1 c hc
  rcases Bool.eq_false_or_eq_true (isCode c) with hi | hi
  · exact h2 c (List.mem_filter.mpr ⟨hc, hi⟩)
  · simpa [hi] using h
set_option maxRecDepth 65536 in
theorem w_c0 : (Jvm.Cond.code x code maxLocals ret).before args0 about1 = true := code_word (m := ⟨1, 1⟩) (meth := k1m1) (c := k1c1) (by decide +kernel) rfl rfl rfl (by decide +kernel)
set_option maxRecDepth 65536 in
theorem w_c1 : (Jvm.Cond.code ({ cls := "com/example/mooring/mooring/Change$Event", name := "ofCode", desc := "(B)Lcom/example/mooring/mooring/Change$Event;" } : Jvm.MethodName) prog_6_method_6_code (5 : Nat) (Option.some (Jvm.ClassFile.FieldType.object "com/example/mooring/mooring/Change$Event"))).before args0 about1 = true := code_word (m := ⟨6, 2⟩) (meth := k6m2) (c := k6c2) (by decide +kernel) rfl rfl rfl (by decide +kernel)
set_option maxRecDepth 65536 in
theorem w_c2 : (Jvm.Cond.code ({ cls := "com/example/mooring/mooring/Change$Event", name := "values", desc := "()[Lcom/example/mooring/mooring/Change$Event;" } : Jvm.MethodName) prog_6_method_1_code (0 : Nat) (Option.some (Jvm.ClassFile.FieldType.array (Jvm.ClassFile.FieldType.object "com/example/mooring/mooring/Change$Event")))).before args0 about1 = true := code_word (m := ⟨6, 0⟩) (meth := k6m0) (c := k6c0) (by decide +kernel) rfl rfl rfl (by decide +kernel)
set_option maxRecDepth 65536 in
theorem w_c3 : (Jvm.Cond.code ({ cls := "com/example/mooring/mooring/Change$Event", name := "code", desc := "()B" } : Jvm.MethodName) prog_6_method_5_code (1 : Nat) (Option.some Jvm.ClassFile.FieldType.byte)).before args0 about1 = true := code_word (m := ⟨6, 1⟩) (meth := k6m1) (c := k6c1) (by decide +kernel) rfl rfl rfl (by decide +kernel)
def codes1 : List Jvm.Cond := [Jvm.Cond.code x code maxLocals ret, Jvm.Cond.code ({ cls := "com/example/mooring/mooring/Change$Event", name := "ofCode", desc := "(B)Lcom/example/mooring/mooring/Change$Event;" } : Jvm.MethodName) prog_6_method_6_code (5 : Nat) (Option.some (Jvm.ClassFile.FieldType.object "com/example/mooring/mooring/Change$Event")), Jvm.Cond.code ({ cls := "com/example/mooring/mooring/Change$Event", name := "values", desc := "()[Lcom/example/mooring/mooring/Change$Event;" } : Jvm.MethodName) prog_6_method_1_code (0 : Nat) (Option.some (Jvm.ClassFile.FieldType.array (Jvm.ClassFile.FieldType.object "com/example/mooring/mooring/Change$Event"))), Jvm.Cond.code ({ cls := "com/example/mooring/mooring/Change$Event", name := "code", desc := "()B" } : Jvm.MethodName) prog_6_method_5_code (1 : Nat) (Option.some Jvm.ClassFile.FieldType.byte)]
set_option maxRecDepth 65536 in
theorem codes_eq : words1.filter isCode = codes1 := rfl
theorem w_codes : ∀ c ∈ words1.filter isCode, c.before args0 about1 = true := by
  rw [codes_eq]
  intro c hc
  simp only [codes1, List.mem_cons, List.not_mem_nil, or_false] at hc
  rcases hc with rfl | rfl | rfl | rfl
  · exact w_c0
  · exact w_c1
  · exact w_c2
  · exact w_c3
set_option maxRecDepth 65536 in
theorem w_t1 : (words1.take 24).all (fun c => isCode c || c.before args0 about1) = true := by decide +kernel
set_option maxRecDepth 65536 in
theorem w_t2 : (words1.drop 24).all (fun c => isCode c || c.before args0 about1) = true := by decide +kernel
theorem w_tables : (allAtoms (Jvm.Cond.code x code maxLocals ret :: tables_1)).before args0 about1 = true := by
  rw [allAtoms_all]
  show words1.all (fun c => c.before args0 about1) = true
  refine all_split ?_ w_codes
  rw [← List.take_append_drop 24 words1, List.all_append, w_t1, w_t2]
  rfl
set_option maxRecDepth 65536 in
theorem w_case : (Jvm.Cond.and given_1 narrow_1).before args0 about1 = true := by decide +kernel
theorem w_applies : (headSpec (Jvm.Cond.code x code maxLocals ret :: tables_1) room_1).applies x e0.platform about1 = true :=
  (Spec.applies_iff w_frames).mpr ⟨w_running, w_runnable, w_alone, w_named, w_hears, w_ripe, w_room, w_tables⟩
theorem atStart : AtStart classFile x code maxLocals ret World_1 tables_1 room_1 Calls_1 rest_1 Pre_1 launch0 p0 e0 about1 theMethod args0 below0 :=
  ⟨lists_1, trivial, launch0.admits_env _ _ _, launch0.least_env, fairChoices_fair.cas, fairChoices_fair.clock, w_frames, w_args, w_heap, w_applies, trivial, trivial, w_case⟩
end start1
theorem witness_1 : WitnessClaimed_1 := ⟨start1.p0, start1.e0, start1.about1, start1.theMethod, start1.args0, start1.below0, start1.atStart⟩
end Jvm.Pilot.@@N@@
