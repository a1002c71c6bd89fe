import JvmDerived
import JvmDerived.Pilot.@@N@@Statement
import JvmDerived.Pilot.@@N@@Code
set_option linter.unusedVariables false
set_option linter.unusedSimpArgs false
namespace Jvm.RoadKit
open Sem ClassFile Op Lib Jvm.Stand Jvm.Free Jvm.LawKit
section New
variable {p : Program} {l : Launch} {e : Env} {R : Room} {s : State} {m : MethodId} {args : Array Value} {below : List Frame} {meth : Method} {c : Code} {T : State} {locs : List Loc} {cells slots : Nat}
theorem retI (X : Stand p l e R s m args below meth c T locs cells slots) (hx : p.tables.exec = Jvm.exec) {pc : Nat} {Ls : Array Slot} {z : Int32} {rest : List Value} (hret : meth.sig.returnType = some .int) (hd : decode c.code pc = .ok (.ireturn, 1)) {fs : List Frame}
    (hl : ∀ (f : JFrame) (acts : List Action), f.method = m → f.locked = none → f.entered = [] → (doReturn e (T.setTop f) acts (some (.int z))).1 = T.setFrames fs) : Steps p.tables e below (T.setTop (mkF m pc Ls (.int z :: rest))) (T.setFrames fs) := by
  have hm' : T.vm.method? m = some meth := X.method'
  have hn : narrow .int (.int z) = .int z := rfl
  show Steps p.tables e below (T.setTop { method := m, pc := pc, locals := Ls, stack := _ :: rest, locked := none }) _
  jvm_step X.here [X.here.top, hx, hd, hm', hret, hn]
  first | (intro acts; rw [hl _ acts rfl rfl rfl]) | rw [hl _ _ rfl rfl rfl]
  exact Steps.refl _
end New
end Jvm.RoadKit
namespace Jvm.RoadKit
open Sem ClassFile Op Lib Jvm.Stand Jvm.Free Jvm.LawKit
/-- own: the rest of a run, from the state t on -/
def Go (p : Program) (e : Env) (below : List Frame) (s : State) (Q : Option Value → Heap → List Loc → Prop) (C S : Nat) (t : State) : Prop :=
  ∃ s₂ o, Steps p.tables e below t s₂ ∧ s₂.status = .running ∧ Ended s₂ below o ∧ ∃ v L, o = .returned v ∧ Q v s₂.heap L ∧ FrameEnd s o s₂ L C S
theorem Go.st {p : Program} {e : Env} {below : List Frame} {s : State} {Q : Option Value → Heap → List Loc → Prop} {C S : Nat} {t t' : State} (h : ∀ target, Steps p.tables e below t' target → Steps p.tables e below t target) (k : Go p e below s Q C S t') : Go p e below s Q C S t := by
  obtain ⟨s₂, o, h1, h2⟩ := k
  exact ⟨s₂, o, h _ h1, h2⟩
theorem Go.by {p : Program} {e : Env} {below : List Frame} {s : State} {Q : Option Value → Heap → List Loc → Prop} {C S : Nat} {t t' : State} (h : Steps p.tables e below t t') (k : Go p e below s Q C S t') : Go p e below s Q C S t := by
  obtain ⟨s₂, o, h1, h2⟩ := k
  exact ⟨s₂, o, h.trans h1, h2⟩
theorem Go.ret {p : Program} {l : Launch} {e : Env} {R : Room} {s : State} {m : MethodId} {args : Array Value} {below : List Frame} {meth : Method} {c : Code} {T : State} {locs : List Loc} {cells slots : Nat} {Q : Option Value → Heap → List Loc → Prop} {C S : Nat} {t : State}
    (X : Stand p l e R s m args below meth c T locs cells slots) {v : Option Value} (hv : meth.sig.returnType = none → v = none) (hlocks : meth.locks = false)
    (st : ∀ fs, (∀ (f : JFrame) (acts : List Action), f.method = m → f.locked = none → f.entered = [] → (doReturn e (T.setTop f) acts v).1 = T.setFrames fs) → Steps p.tables e below t (T.setFrames fs))
    (hQ : Q v T.heap locs) (hC : cells ≤ C) (hS : slots ≤ S) : Go p e below s Q C S t := by
  obtain ⟨fs, hr, hrun, hended, hW, hsame⟩ := X.leave hv hlocks
  exact ⟨_, _, st fs hr, hrun, hended, _, _, rfl, hQ, ⟨_, rfl⟩, hW, hsame.mono hC hS⟩
def GoW (p : Program) (e : Env) (below : List Frame) (s : State) (Q : Option Value → Heap → List Loc → Prop) (C S : Nat) (t : State) : Prop :=
  ∃ s₂ o, Steps p.tables e below t s₂ ∧ s₂.status = .running ∧ Ended s₂ below o ∧ ∃ v L, o = .returned v ∧ Q v s₂.heap L ∧ ReturnedEndW s o s₂ L C S
theorem GoW.st {p : Program} {e : Env} {below : List Frame} {s : State} {Q : Option Value → Heap → List Loc → Prop} {C S : Nat} {t t' : State} (h : ∀ target, Steps p.tables e below t' target → Steps p.tables e below t target) (k : GoW p e below s Q C S t') : GoW p e below s Q C S t := by
  obtain ⟨s₂, o, h1, h2⟩ := k
  exact ⟨s₂, o, h _ h1, h2⟩
theorem GoW.by {p : Program} {e : Env} {below : List Frame} {s : State} {Q : Option Value → Heap → List Loc → Prop} {C S : Nat} {t t' : State} (h : Steps p.tables e below t t') (k : GoW p e below s Q C S t') : GoW p e below s Q C S t := by
  obtain ⟨s₂, o, h1, h2⟩ := k
  exact ⟨s₂, o, h.trans h1, h2⟩
theorem GoW.ret {p : Program} {l : Launch} {e : Env} {R : Room} {s : State} {vm₁ : Vm} {m : MethodId} {args : Array Value} {below : List Frame} {meth : Method} {c : Code} {T : State} {locs : List Loc} {cells slots : Nat} {Q : Option Value → Heap → List Loc → Prop} {C S : Nat} {t : State}
    (X : Stand p l e R (s.setVm vm₁) m args below meth c T locs cells slots) {n : Nat} (hSi : s.Since vm₁ n) (hn : n ≤ T.heap.size) {v : Option Value} (hv : meth.sig.returnType = none → v = none) (hlocks : meth.locks = false)
    (st : ∀ fs, (∀ (f : JFrame) (acts : List Action), f.method = m → f.locked = none → f.entered = [] → (doReturn e (T.setTop f) acts v).1 = T.setFrames fs) → Steps p.tables e below t (T.setFrames fs))
    (hQ : Q v T.heap locs) (hC : cells ≤ C) (hS : slots ≤ S) : GoW p e below s Q C S t := by
  obtain ⟨fs, hr, hrun, hended, h1, h2, h3, h4⟩ := X.leaveW hSi hn hv hlocks
  exact ⟨_, _, st fs hr, hrun, hended, _, _, rfl, hQ, h1, h2, h3, h4.mono hC hS⟩
abbrev Rm (f c s l : Nat) : Room := { frames := f, cells := c, slots := s, locals := l }
abbrev Met (l : Launch) (Z : State) (ws : List Cond) (y : MethodName) (bytes : ByteArray) (ml : Nat) (rt : Option FieldType) (rm : Room) (as' : Array Value) (h0 : Heap) (Q : Option Value → Heap → List Loc → Prop) : Prop :=
  MetFree l y (head1 (Cond.code y bytes ml rt :: ws) rm) (fun a U => a = as' ∧ Z.Warmed39 U.vm ∧ U.heap = h0) (fun _ _ _ _ _ => True) (fun _ U o U' => ∃ v L, o = .returned v ∧ Q v U'.heap L ∧ FrameEnd U o U' L rm.cells rm.slots)
theorem Met.enter {l : Launch} {Z : State} {ws : List Cond} {y : MethodName} {bytes : ByteArray} {ml : Nat} {rt : Option FieldType} {rm : Room} {as' : Array Value} {h0 : Heap} {Q : Option Value → Heap → List Loc → Prop} {L0 : Array Slot} (hp : plainFor y = true) (ef : ∀ m, entryFrame m as' ml = mkF m 0 L0 [])
    (body : ∀ (p : Program) (e : Env) (s : State) (m : MethodId) (below : List Frame) (meth : Method) (c : Code) (s₁ : State), p.tables.exec = Jvm.exec → c.code = bytes → c.maxLocals = ml → s.vm.findClass y.cls = some m.cls → meth.name = y.name → meth.sig.returnType = rt → meth.locks = false → Z.Warmed39 s.vm → Stand p l e rm s m as' below meth c s₁ [] 0 0 → s₁.heap = h0 → Go p e below s Q rm.cells rm.slots (s₁.setTop (mkF m 0 L0 []))) : Met l Z ws y bytes ml rt rm as' h0 Q := by
  refine MetFree.of_bodySF hp hisR ?_
  intro p e s m args below meth c s₁ Bd hml0 hP hK
  obtain ⟨rfl, hZ, hh⟩ := hP
  have e0 : s₁.heap = h0 := by rw [← hh, Bd.state]; rfl
  exact Go.st (fun t k => castTop (ef m) k) (body p e s m below meth c s₁ Bd.exec Bd.bytes hml0 (findClass_of_methodNamed Bd.named) (name_of_methodNamed Bd.named Bd.method).1 Bd.returns (BodyLoose.notSynchronized Bd) hZ (Stand.of_body Bd) e0)
abbrev MetW (l : Launch) (Z : State) (ws : List Cond) (y : MethodName) (bytes : ByteArray) (ml : Nat) (rt : Option FieldType) (rm : Room) (as' : Array Value) (h0 : Heap) (Q : Option Value → Heap → List Loc → Prop) : Prop :=
  MetFree l y (head1 (Cond.code y bytes ml rt :: ws) rm) (fun a U => a = as' ∧ Z.Warmed39 U.vm ∧ U.heap = h0) (fun _ _ _ _ _ => True) (fun _ U o U' => ∃ v L, o = .returned v ∧ Q v U'.heap L ∧ ReturnedEndW U o U' L rm.cells rm.slots)
theorem MetW.enter {l : Launch} {Z : State} {ws : List Cond} {y : MethodName} {bytes : ByteArray} {ml : Nat} {rt : Option FieldType} {rm : Room} {as' : Array Value} {h0 : Heap} {Q : Option Value → Heap → List Loc → Prop} {L0 : Array Slot} (hp : plainFor y = true) (ef : ∀ m, entryFrame m as' ml = mkF m 0 L0 [])
    (body : ∀ (p : Program) (e : Env) (s : State) (m : MethodId) (below : List Frame) (meth : Method) (c : Code) (s₁ : State), p.tables.exec = Jvm.exec → c.code = bytes → c.maxLocals = ml → s.vm.findClass y.cls = some m.cls → meth.name = y.name → meth.sig.returnType = rt → meth.locks = false → Z.Warmed39 s.vm → Stand p l e rm (s.setVm s.vm) m as' below meth c s₁ [] 0 0 → s₁.heap = h0 → GoW p e below s Q rm.cells rm.slots (s₁.setTop (mkF m 0 L0 []))) : MetW l Z ws y bytes ml rt rm as' h0 Q := by
  refine MetFree.of_bodySF hp hisR ?_
  intro p e s m args below meth c s₁ Bd hml0 hP hK
  obtain ⟨rfl, hZ, hh⟩ := hP
  have e0 : s₁.heap = h0 := by rw [← hh, Bd.state]; rfl
  exact GoW.st (fun t k => castTop (ef m) k) (body p e s m below meth c s₁ Bd.exec Bd.bytes hml0 (findClass_of_methodNamed Bd.named) (name_of_methodNamed Bd.named Bd.method).1 Bd.returns (BodyLoose.notSynchronized Bd) hZ (Stand.of_body Bd) e0)
def GoH (p : Program) (e : Env) (below : List Frame) (s : State) (P : Option Value → State → List Loc → Prop) (C S : Nat) (t : State) : Prop :=
  ∃ s₂ o, Steps p.tables e below t s₂ ∧ s₂.status = .running ∧ Ended s₂ below o ∧ ∃ v L, o = .returned v ∧ P v s₂ L ∧ ReturnedEndW s o s₂ L C S
theorem GoH.st {p : Program} {e : Env} {below : List Frame} {s : State} {P : Option Value → State → List Loc → Prop} {C S : Nat} {t t' : State} (h : ∀ target, Steps p.tables e below t' target → Steps p.tables e below t target) (k : GoH p e below s P C S t') : GoH p e below s P C S t := by
  obtain ⟨s₂, o, h1, h2⟩ := k
  exact ⟨s₂, o, h _ h1, h2⟩
theorem GoH.by {p : Program} {e : Env} {below : List Frame} {s : State} {P : Option Value → State → List Loc → Prop} {C S : Nat} {t t' : State} (h : Steps p.tables e below t t') (k : GoH p e below s P C S t') : GoH p e below s P C S t := by
  obtain ⟨s₂, o, h1, h2⟩ := k
  exact ⟨s₂, o, h.trans h1, h2⟩
theorem GoH.ret {p : Program} {l : Launch} {e : Env} {R : Room} {s : State} {vm₁ : Vm} {m : MethodId} {args : Array Value} {below : List Frame} {meth : Method} {c : Code} {T : State} {locs : List Loc} {cells slots : Nat} {Q : Option Value → Heap → List Loc → Prop} {C S : Nat} {t : State} {Z : State} {EL : List (String × Nat)} {a0 : Array Value} {h0 h : Heap}
    (X : Stand p l e R (s.setVm vm₁) m args below meth c T locs cells slots) {n : Nat} (hSi : s.Since vm₁ n) (hn : n ≤ T.heap.size) (hZ : Z.Warmed39 vm₁) (hEL : EW Z a0 EL) (ch : CHr Z EL s.vm h0 vm₁ h) (eT : T.heap = h) {v : Option Value} (hv : meth.sig.returnType = none → v = none) (hlocks : meth.locks = false)
    (st : ∀ fs, (∀ (f : JFrame) (acts : List Action), f.method = m → f.locked = none → f.entered = [] → (doReturn e (T.setTop f) acts v).1 = T.setFrames fs) → Steps p.tables e below t (T.setFrames fs))
    (hQ : Q v T.heap locs) (hC : cells ≤ C) (hS : slots ≤ S) : GoH p e below s (fun v s₂ L => Q v s₂.heap L ∧ CHr Z EL s.vm h0 s₂.vm s₂.heap) C S t := by
  obtain ⟨fs, hr, hrun, hended, h1, h2, h3, h4⟩ := X.leaveW hSi hn hv hlocks
  have q := ch.trans (CHv.at X hZ hEL ch.1)
  rw [← eT] at q
  exact ⟨_, _, st fs hr, hrun, hended, _, _, rfl, ⟨hQ, q⟩, h1, h2, h3, h4.mono hC hS⟩
abbrev MetH (EL : List (String × Nat)) (xs : List Addr) (l : Launch) (Z : State) (ws : List Cond) (y : MethodName) (bytes : ByteArray) (ml : Nat) (rt : Option FieldType) (rm : Room) (as' : Array Value) (h0 : Heap) (Q : Option Value → Heap → List Loc → Prop) : Prop :=
  MetFree l y (head1 (Cond.code y bytes ml rt :: ws) rm) (fun a U => a = as' ∧ Z.Warmed39 U.vm ∧ U.heap = h0 ∧ CHv Z EL U.vm h0 ∧ ∀ x ∈ xs, Safe Z EL U.vm h0 x) (fun _ _ _ _ _ => True) (fun _ U o U' => ∃ v L, o = .returned v ∧ Q v U'.heap L ∧ CHr Z EL U.vm U.heap U'.vm U'.heap ∧ ReturnedEndW U o U' L rm.cells rm.slots)
theorem MetH.enter {EL : List (String × Nat)} {xs : List Addr} {l : Launch} {Z : State} {ws : List Cond} {y : MethodName} {bytes : ByteArray} {ml : Nat} {rt : Option FieldType} {rm : Room} {as' : Array Value} {h0 : Heap} {Q : Option Value → Heap → List Loc → Prop} {L0 : Array Slot} (hp : plainFor y = true) (ef : ∀ m, entryFrame m as' ml = mkF m 0 L0 [])
    (body : ∀ (p : Program) (e : Env) (s : State) (m : MethodId) (below : List Frame) (meth : Method) (c : Code) (s₁ : State), p.tables.exec = Jvm.exec → c.code = bytes → c.maxLocals = ml → s.vm.findClass y.cls = some m.cls → meth.name = y.name → meth.sig.returnType = rt → meth.locks = false → Z.Warmed39 s.vm → Stand p l e rm (s.setVm s.vm) m as' below meth c s₁ [] 0 0 → s₁.heap = h0 → CHv Z EL s.vm h0 → (∀ x ∈ xs, Safe Z EL s.vm h0 x) → GoH p e below s (fun v s₂ L => Q v s₂.heap L ∧ CHr Z EL s.vm h0 s₂.vm s₂.heap) rm.cells rm.slots (s₁.setTop (mkF m 0 L0 []))) : MetH EL xs l Z ws y bytes ml rt rm as' h0 Q := by
  refine MetFree.of_bodySF hp hisR ?_
  intro p e s m args below meth c s₁ Bd hml0 hP hK
  obtain ⟨rfl, hZ, hh, hH, hX⟩ := hP
  have e0 : s₁.heap = h0 := by rw [← hh, Bd.state]; rfl
  obtain ⟨s₂, o, q1, q2, q3, v, L, q4, ⟨q5, q6⟩, q7⟩ := GoH.st (fun t k => castTop (ef m) k) (body p e s m below meth c s₁ Bd.exec Bd.bytes hml0 (findClass_of_methodNamed Bd.named) (name_of_methodNamed Bd.named Bd.method).1 Bd.returns (BodyLoose.notSynchronized Bd) hZ (Stand.of_body Bd) e0 hH hX)
  exact ⟨s₂, o, q1, q2, q3, v, L, q4, q5, by rw [hh]; exact q6, q7⟩
abbrev MetP (EL : List (String × Nat)) (xs : List Addr) (l : Launch) (Z : State) (ws : List Cond) (y : MethodName) (bytes : ByteArray) (ml : Nat) (rt : Option FieldType) (rm : Room) (as' : Array Value) (h0 : Heap) (Q : Option Value → Heap → List Loc → Prop) : Prop :=
  MetFree l y (head1 (Cond.code y bytes ml rt :: ws) rm) (fun a U => a = as' ∧ Z.Warmed39 U.vm ∧ U.heap = h0 ∧ CHv Z EL U.vm h0 ∧ ∀ x ∈ xs, Safe Z EL U.vm h0 x) (fun _ _ _ _ _ => True) (fun _ U o U' => ∃ v L, o = .returned v ∧ Q v U'.heap L ∧ ReturnedEndW U o U' L rm.cells rm.slots)
theorem MetP.enter {EL : List (String × Nat)} {xs : List Addr} {l : Launch} {Z : State} {ws : List Cond} {y : MethodName} {bytes : ByteArray} {ml : Nat} {rt : Option FieldType} {rm : Room} {as' : Array Value} {h0 : Heap} {Q : Option Value → Heap → List Loc → Prop} {L0 : Array Slot} (hp : plainFor y = true) (ef : ∀ m, entryFrame m as' ml = mkF m 0 L0 [])
    (body : ∀ (p : Program) (e : Env) (s : State) (m : MethodId) (below : List Frame) (meth : Method) (c : Code) (s₁ : State), p.tables.exec = Jvm.exec → c.code = bytes → c.maxLocals = ml → s.vm.findClass y.cls = some m.cls → meth.name = y.name → meth.sig.returnType = rt → meth.locks = false → Z.Warmed39 s.vm → Stand p l e rm (s.setVm s.vm) m as' below meth c s₁ [] 0 0 → s₁.heap = h0 → CHv Z EL s.vm h0 → (∀ x ∈ xs, Safe Z EL s.vm h0 x) → GoW p e below s Q rm.cells rm.slots (s₁.setTop (mkF m 0 L0 []))) : MetP EL xs l Z ws y bytes ml rt rm as' h0 Q := by
  refine MetFree.of_bodySF hp hisR ?_
  intro p e s m args below meth c s₁ Bd hml0 hP hK
  obtain ⟨rfl, hZ, hh, hH, hX⟩ := hP
  have e0 : s₁.heap = h0 := by rw [← hh, Bd.state]; rfl
  exact GoW.st (fun t k => castTop (ef m) k) (body p e s m below meth c s₁ Bd.exec Bd.bytes hml0 (findClass_of_methodNamed Bd.named) (name_of_methodNamed Bd.named Bd.method).1 Bd.returns (BodyLoose.notSynchronized Bd) hZ (Stand.of_body Bd) e0 hH hX)
theorem own_backOfSX {p : Program} {l : Launch} {e : Env} {R : Room} {s : State} {args : Array Value} {below : List Frame} {Z : State} {a0 : Array Value} {EL : List (String × Nat)} {xs : List Addr} {h : Heap} {vm0 : Vm} {y : MethodName} {bytes : ByteArray} {maxL : Nat} {ret : Option FieldType} {rm : Room} {len W : Nat} {as' : Array Value} {Q : Option Value → Heap → List Loc → Prop}
    (hM : MetFree l y (head1 [Cond.code y bytes maxL ret] rm) (fun a U => a = as' ∧ Z.Warmed39 U.vm ∧ U.heap = h ∧ CHv Z EL U.vm h ∧ ∀ x ∈ xs, Safe Z EL U.vm h x) (fun _ _ _ _ _ => True) (fun _ U o U' => ∃ v L, o = .returned v ∧ Q v U'.heap L ∧ CHr Z EL U.vm U.heap U'.vm U'.heap ∧ ReturnedEndW U o U' L rm.cells rm.slots))
    (hZ : Z.Warmed39 vm0) (wc : (Cond.code y bytes maxL ret).before a0 Z = true) (wz : (Cond.initialized y.cls).before a0 Z = true) (hf : rm.frames + 1 ≤ R.frames) (hl : W + (maxL + 11) + rm.locals ≤ R.locals) (hEL : EW Z a0 EL) (H : CHv Z EL vm0 h) (hxs : ∀ x ∈ xs, x < h.size ∧ Safe Z EL vm0 h x) :
    BackS l R p e below (s.setVm vm0) args y len W (fun A a => a = as' ∧ A.U.heap = h ∧ A.cells + rm.cells ≤ R.cells ∧ A.slots + rm.slots ≤ R.slots)
      (fun A _ v B => ∃ L, Q v B.U.heap L ∧ B.locs = A.locs ++ L ∧ B.cells = A.cells + rm.cells ∧ B.slots = A.slots + rm.slots ∧ CHr Z EL vm0 h B.U.vm B.U.heap) :=
  BackS.of_freeW (bytes := bytes) (maxL := maxL) (ret := ret) (E := fun _ first o t L k n => k = rm.cells ∧ n = rm.slots ∧ (∃ v, o = .returned v ∧ Q v t.heap L) ∧ CHr Z EL first.vm first.heap t.vm t.heap) hM hf hl
    (fun m meth c A a Y hp => have hU : Z.Warmed39 A.U.vm := wtrans (s := s.setVm vm0) hZ Y.warmed
      ⟨by show (Cond.and _ .tt).before a A.U = true; rw [Cond.before_and, mv hU wc]; rfl, mv hU wc, mv hU wz, hp.2.2.1, hp.2.2.2⟩)
    (fun m meth c A a g mk Y hp => ⟨hp.1, wtrans (s := s.setVm vm0) hZ Y.warmed, hp.2.1, (CHv.at Y hZ hEL H).1, fun x hx => (CHv.at Y hZ hEL H).safe (hxs x hx).1 (hxs x hx).2⟩) (fun _ _ _ _ _ _ _ _ _ => trivial)
    (fun _ _ _ _ ⟨v, L, h1, h2, h3, h4⟩ => ⟨L, _, _, h4, rfl, rfl, ⟨v, h1, h2⟩, h3⟩)
    (fun m meth c A a g mk v t L k n Y hp _ _ ⟨e1, e2, ⟨v', e3, e4⟩, e5⟩ => by
      cases e3; subst e1 e2
      refine ⟨L, e4, rfl, rfl, rfl, (CHv.at Y hZ hEL H).trans ?_⟩
      rw [← hp.2.1]; exact e5)
theorem own_backOfSP {p : Program} {l : Launch} {e : Env} {R : Room} {s : State} {args : Array Value} {below : List Frame} {Z : State} {a0 : Array Value} {EL : List (String × Nat)} {xs : List Addr} {h : Heap} {vm0 : Vm} {y : MethodName} {bytes : ByteArray} {maxL : Nat} {ret : Option FieldType} {rm : Room} {len W : Nat} {as' : Array Value} {Q : Option Value → Heap → List Loc → Prop}
    (hM : MetFree l y (head1 [Cond.code y bytes maxL ret] rm) (fun a U => a = as' ∧ Z.Warmed39 U.vm ∧ U.heap = h ∧ CHv Z EL U.vm h ∧ ∀ x ∈ xs, Safe Z EL U.vm h x) (fun _ _ _ _ _ => True) (fun _ U o U' => ∃ v L, o = .returned v ∧ Q v U'.heap L ∧ ReturnedEndW U o U' L rm.cells rm.slots))
    (hZ : Z.Warmed39 vm0) (wc : (Cond.code y bytes maxL ret).before a0 Z = true) (wz : (Cond.initialized y.cls).before a0 Z = true) (hf : rm.frames + 1 ≤ R.frames) (hl : W + (maxL + 11) + rm.locals ≤ R.locals) (hEL : EW Z a0 EL) (H : CHv Z EL vm0 h) (hxs : ∀ x ∈ xs, x < h.size ∧ Safe Z EL vm0 h x) :
    BackS l R p e below (s.setVm vm0) args y len W (fun A a => a = as' ∧ A.U.heap = h ∧ A.cells + rm.cells ≤ R.cells ∧ A.slots + rm.slots ≤ R.slots)
      (fun A _ v B => ∃ L, Q v B.U.heap L ∧ B.locs = A.locs ++ L ∧ B.cells = A.cells + rm.cells ∧ B.slots = A.slots + rm.slots) :=
  BackS.of_freeW (bytes := bytes) (maxL := maxL) (ret := ret) (E := fun _ first o t L k n => k = rm.cells ∧ n = rm.slots ∧ (∃ v, o = .returned v ∧ Q v t.heap L)) hM hf hl
    (fun m meth c A a Y hp => have hU : Z.Warmed39 A.U.vm := wtrans (s := s.setVm vm0) hZ Y.warmed
      ⟨by show (Cond.and _ .tt).before a A.U = true; rw [Cond.before_and, mv hU wc]; rfl, mv hU wc, mv hU wz, hp.2.2.1, hp.2.2.2⟩)
    (fun m meth c A a g mk Y hp => ⟨hp.1, wtrans (s := s.setVm vm0) hZ Y.warmed, hp.2.1, (CHv.at Y hZ hEL H).1, fun x hx => (CHv.at Y hZ hEL H).safe (hxs x hx).1 (hxs x hx).2⟩) (fun _ _ _ _ _ _ _ _ _ => trivial)
    (fun _ _ _ _ ⟨v, L, h1, h2, h4⟩ => ⟨L, _, _, h4, rfl, rfl, ⟨v, h1, h2⟩⟩)
    (fun m meth c A a g mk v t L k n Y hp _ _ ⟨e1, e2, ⟨v', e3, e4⟩⟩ => by
      cases e3; subst e1 e2
      exact ⟨L, e4, rfl, rfl, rfl⟩)
theorem retR {p : Program} {l : Launch} {e : Env} {R : Room} {s : State} {m : MethodId} {args : Array Value} {below : List Frame} {meth : Method} {c : Code} {T : State} {locs : List Loc} {cells slots : Nat} (X : Stand p l e R s m args below meth c T locs cells slots) (hx : p.tables.exec = Jvm.exec) {pc : Nat} {Ls : Array Slot} {z : Value} {rest : List Value} {t : FieldType} (hret : meth.sig.returnType = some t) (ht : t.isReference = true) (hz : z.isRef = true) (hd : decode c.code pc = .ok (.areturn, 1)) {fs : List Frame}
    (hl : ∀ (f : JFrame) (acts : List Action), f.method = m → f.locked = none → f.entered = [] → (doReturn e (T.setTop f) acts (some z)).1 = T.setFrames fs) : Steps p.tables e below (T.setTop (mkF m pc Ls (z :: rest))) (T.setFrames fs) := by
  have hm' : T.vm.method? m = some meth := X.method'
  show Steps p.tables e below (T.setTop { method := m, pc := pc, locals := Ls, stack := _ :: rest, locked := none }) _
  jvm_step X.here [X.here.top, hx, hd, hm', hret, ht, hz]
  first | (intro acts; rw [hl _ acts rfl rfl rfl]) | rw [hl _ _ rfl rfl rfl]
  exact Steps.refl _
theorem retJ {p : Program} {l : Launch} {e : Env} {R : Room} {s : State} {m : MethodId} {args : Array Value} {below : List Frame} {meth : Method} {c : Code} {T : State} {locs : List Loc} {cells slots : Nat} (X : Stand p l e R s m args below meth c T locs cells slots) (hx : p.tables.exec = Jvm.exec) {pc : Nat} {Ls : Array Slot} {z : Int64} {rest : List Value} (hret : meth.sig.returnType = some .long) (hd : decode c.code pc = .ok (.lreturn, 1)) {fs : List Frame}
    (hl : ∀ (f : JFrame) (acts : List Action), f.method = m → f.locked = none → f.entered = [] → (doReturn e (T.setTop f) acts (some (.long z))).1 = T.setFrames fs) : Steps p.tables e below (T.setTop (mkF m pc Ls (.long z :: rest))) (T.setFrames fs) := by
  have hm' : T.vm.method? m = some meth := X.method'
  show Steps p.tables e below (T.setTop { method := m, pc := pc, locals := Ls, stack := _ :: rest, locked := none }) _
  jvm_step X.here [X.here.top, hx, hd, hm', hret, narrow]
  first | (intro acts; rw [hl _ acts rfl rfl rfl]) | rw [hl _ _ rfl rfl rfl]
  exact Steps.refl _
theorem retD {p : Program} {l : Launch} {e : Env} {R : Room} {s : State} {m : MethodId} {args : Array Value} {below : List Frame} {meth : Method} {c : Code} {T : State} {locs : List Loc} {cells slots : Nat} (X : Stand p l e R s m args below meth c T locs cells slots) (hx : p.tables.exec = Jvm.exec) {pc : Nat} {Ls : Array Slot} {z : UInt64} {rest : List Value} (hret : meth.sig.returnType = some .double) (hd : decode c.code pc = .ok (.dreturn, 1)) {fs : List Frame}
    (hl : ∀ (f : JFrame) (acts : List Action), f.method = m → f.locked = none → f.entered = [] → (doReturn e (T.setTop f) acts (some (.double z))).1 = T.setFrames fs) : Steps p.tables e below (T.setTop (mkF m pc Ls (.double z :: rest))) (T.setFrames fs) := by
  have hm' : T.vm.method? m = some meth := X.method'
  show Steps p.tables e below (T.setTop { method := m, pc := pc, locals := Ls, stack := _ :: rest, locked := none }) _
  jvm_step X.here [X.here.top, hx, hd, hm', hret, narrow]
  first | (intro acts; rw [hl _ acts rfl rfl rfl]) | rw [hl _ _ rfl rfl rfl]
  exact Steps.refl _
theorem Arr.keep {Z : State} {h h' : Heap} {a : Addr} {c : Cell} {ty : FieldType} {ws : List Addr} (F : Arr Z h a c ty) (K : Keep h h' ws) (q : a ∉ ws) : Arr Z h' a c ty := ⟨K.2.1 a c F.1 q, F.2⟩
theorem Ins.keep {Z : State} {h h' : Heap} {a : Addr} {C : String} {b : Bool} {ws : List Addr} (F : Ins Z h a C b) (K : Keep h h' ws) : Ins Z h' a C b := by
  obtain ⟨cell, cT, h1, h2, h3⟩ := F
  obtain ⟨c', q, r1, r2, -⟩ := K.2.2 a cell h1
  exact ⟨c', cT, q, h2, by rw [r1, r2]; exact h3⟩
theorem own_selp {Z : State} {a0 : Array Value} {y : MethodName} {k : Nat} (wi : (Jvm.Cond.instantiable y.cls k).before a0 Z = true) (wp : (Jvm.Cond.privateMethod y).before a0 Z = true) (wm : (Jvm.Cond.instanceMethod y).before a0 Z = true) (hy : y.cls ≠ "java/lang/invoke/MethodHandle" ∧ y.cls ≠ "java/lang/invoke/VarHandle") : (Jvm.Cond.selects y.cls y y).before a0 Z = true := by
  obtain ⟨c, k', h1, h2, -, h3, -⟩ := Cond.instantiable_spec wi
  exact selects_self_of_private h1 h2 (by simp only [Bool.or_eq_false_iff] at h3; exact h3.1) (Cond.privateMethod_at wp) wm hy
theorem own_mvNest {Z s : State} {a0 args : Array Value} {own host : String} {index : Nat} {y : MethodName} (hZ : Z.Warmed39 s.vm) (w : (Jvm.Cond.methodLinkNest own index y host).before a0 Z = true) : (Jvm.Cond.methodLinkNest own index y host).before args s = true := (Cond.methodLinkNest_wide hZ w :)
theorem own_nsroot {Z : State} {a0 : Array Value} {O K : String} {n : Nat} (w : (Jvm.Cond.noSuperclass O).before a0 Z = true) (wk : (Jvm.Cond.instantiable K n).before a0 Z = true) (hn : O ≠ K) : NS Z O K := by
  obtain ⟨c, k, h1, h2, h3, -, -⟩ := Cond.noSuperclass_spec w
  obtain ⟨t, kt, g1, -⟩ := Cond.instantiable_spec wk
  have ne := ids_ne h1 g1 hn
  exact ⟨c, t, h1, g1, fun fuel => by cases fuel with | zero => rfl | succ f => simp [Vm.isSubclassAux, ne, h2, h3]⟩
theorem own_nsno {Z : State} {a0 : Array Value} {C S K : String} {n : Nat} (w : (Jvm.Cond.superclass C S).before a0 Z = true) (wk : (Jvm.Cond.instantiable K n).before a0 Z = true) (nn : NS Z C K) (hn : C ≠ K) : ∃ c t, Z.vm.findClass C = some c ∧ Z.vm.findClass K = some t ∧ Z.vm.assignable c t = false := by
  obtain ⟨c, t, h0, g0, n3⟩ := nn
  obtain ⟨p, k, kp, -, h2, -, -, h5, -, h7⟩ := Cond.superclass_spec h0 w
  obtain ⟨t', k', g1, g2, g3, g4, -⟩ := Cond.instantiable_spec wk
  cases g0.symm.trans g1
  simp only [Bool.or_eq_false_iff] at g4
  have ne := ids_ne h0 g0 hn
  refine ⟨c, _, h0, g0, ?_⟩
  show Z.vm.assignableAux (255 + 1) c _ = false
  simp [Vm.assignableAux, ne, h2, g2, h5, g3, g4.1, Vm.isSubclass, n3]
section OwnWords
variable {args : Array Value} {first s : State} {o : Option Outcome} {idx : List Nat} {a b t : Term}
theorem own_eqi {z : Int32} (h : (Jvm.Cond.eq a (Term.int z)).value args first o s idx = some true) : a.eval args first o idx s = some (.int z) := by
  obtain ⟨x, y, h1, h2, h3, h4⟩ := cmp_v (Or.inl h)
  obtain rfl : .int z = y := Option.some.inj ((Term.int_eval z).symm.trans h2)
  obtain ⟨w, rfl⟩ := h4
  simp only [Cond.value, h1, h2] at h
  simp at h
  rw [h1, h]
theorem own_eqr {w : Addr} (h : (Jvm.Cond.eq a b).value args first o s idx = some true) (hb : b.eval args first o idx s = some (.ref w)) : a.eval args first o idx s = some (.ref w) := by
  obtain ⟨x, y, h1, h2, h3, h4⟩ := cmp_v (Or.inl h)
  cases h2.symm.trans hb
  have hx : x.isRef = true := h4.2
  have q := gotT (eq_R h1 h2 hx rfl) h
  rw [h1, q]
theorem own_len {n : Int32} {w : Addr} {cl : Cell} (h : (Term.length t).eval args first o idx s = some (.int n)) (ht : t.eval args first o idx s = some (.ref w)) (hc : s.heap[w]? = some cl) : cl.slots.size = n.toNatClampNeg ∧ ¬ n < 0 := by
  obtain ⟨a', cell, ha', hat, hv⟩ := Term.length_spec h
  cases ht.symm.trans ha'
  cases (State.arrayAt?_spec hat).1.symm.trans hc
  have hsz : cl.slots.size < 2 ^ 31 := by
    simp only [Term.eval, ht, hat, Option.bind_eq_bind, Option.bind_some] at h
    by_cases hlt : cl.slots.size < 2147483648
    · exact hlt
    · simp [hlt] at h
  cases hv
  refine ⟨?_, ?_⟩
  · simp only [Int32.toNatClampNeg, len_toInt hsz]; rfl
  · rw [Int32.lt_iff_toInt_lt, len_toInt hsz]; show ¬ (cl.slots.size : Int) < 0; omega
end OwnWords
end Jvm.RoadKit
namespace Jvm.Pilot.@@N@@
open Jvm Jvm.ClassFile Sem Op Lib Jvm.Free Jvm.Stand Jvm.LawKit Jvm.RoadKit Bundle Jvm.Pilot.@@N@@.Jvm.D
set_option maxRecDepth 65536
set_option maxHeartbeats 40000000
theorem own_hi (f s : Int32) : (((f.toInt64 * (2097152 : Int64) + (s &&& (2097151 : Int32)).toInt64).toUInt64 >>> ((21 : Int32) &&& 0x3f).toInt64.toUInt64).toInt64).toInt32 = f := by
  have hm := c_mask s 2097151 21 (by decide) (by decide)
  have hf := rng32 f
  have e1 := c_i2l f
  have e2 := c_i2l (s &&& (2097151 : Int32))
  have e3 := c_lmul f.toInt64 (2097152 : Int64)
  have e4 := c_ladd (f.toInt64 * (2097152 : Int64)) (s &&& (2097151 : Int32)).toInt64
  have e5 := c_lushr (f.toInt64 * (2097152 : Int64) + (s &&& (2097151 : Int32)).toInt64) (21 : Int32) 21 (by decide) (by decide)
  have e6 := c_l2i (((f.toInt64 * (2097152 : Int64) + (s &&& (2097151 : Int32)).toInt64).toUInt64 >>> ((21 : Int32) &&& 0x3f).toInt64.toUInt64).toInt64)
  have r1 := rng64 (f.toInt64 * (2097152 : Int64) + (s &&& (2097151 : Int32)).toInt64)
  have r2 := rng64 (f.toInt64 * (2097152 : Int64))
  have r3 := rng32 ((((f.toInt64 * (2097152 : Int64) + (s &&& (2097151 : Int32)).toInt64).toUInt64 >>> ((21 : Int32) &&& 0x3f).toInt64.toUInt64).toInt64).toInt32)
  have e7 : (2097152 : Int64).toInt = 2097152 := rfl
  rw [e7, e1] at e3
  apply Int32.toInt_inj.mp
  generalize ((((f.toInt64 * (2097152 : Int64) + (s &&& (2097151 : Int32)).toInt64).toUInt64 >>> ((21 : Int32) &&& 0x3f).toInt64.toUInt64).toInt64).toInt32).toInt = v at *
  generalize (((f.toInt64 * (2097152 : Int64) + (s &&& (2097151 : Int32)).toInt64).toUInt64 >>> ((21 : Int32) &&& 0x3f).toInt64.toUInt64).toInt64).toInt = v2 at *
  generalize (f.toInt64 * (2097152 : Int64) + (s &&& (2097151 : Int32)).toInt64).toInt = v3 at *
  generalize (f.toInt64 * (2097152 : Int64)).toInt = v4 at *
  rw [e2] at e4
  generalize (s &&& (2097151 : Int32)).toInt = v5 at *
  generalize f.toInt = v6 at *
  omega
theorem own_lo (f s : Int32) : ((f.toInt64 * (2097152 : Int64) + (s &&& (2097151 : Int32)).toInt64) &&& (2097151 : Int64)).toInt32 = (s &&& (2097151 : Int32)) := by
  have hm := c_mask s 2097151 21 (by decide) (by decide)
  have hf := rng32 f
  have e1 := c_i2l f
  have e2 := c_i2l (s &&& (2097151 : Int32))
  have e3 := c_lmul f.toInt64 (2097152 : Int64)
  have e4 := c_ladd (f.toInt64 * (2097152 : Int64)) (s &&& (2097151 : Int32)).toInt64
  have e5 := c_maskL (f.toInt64 * (2097152 : Int64) + (s &&& (2097151 : Int32)).toInt64) (2097151 : Int64) 21 (by decide) (by decide)
  have e6 := c_l2i ((f.toInt64 * (2097152 : Int64) + (s &&& (2097151 : Int32)).toInt64) &&& (2097151 : Int64))
  have r1 := rng64 (f.toInt64 * (2097152 : Int64) + (s &&& (2097151 : Int32)).toInt64)
  have r3 := rng32 (((f.toInt64 * (2097152 : Int64) + (s &&& (2097151 : Int32)).toInt64) &&& (2097151 : Int64)).toInt32)
  have e7 : (2097152 : Int64).toInt = 2097152 := rfl
  rw [e7, e1] at e3
  apply Int32.toInt_inj.mp
  generalize (((f.toInt64 * (2097152 : Int64) + (s &&& (2097151 : Int32)).toInt64) &&& (2097151 : Int64)).toInt32).toInt = v at *
  generalize ((f.toInt64 * (2097152 : Int64) + (s &&& (2097151 : Int32)).toInt64) &&& (2097151 : Int64)).toInt = v2 at *
  generalize (f.toInt64 * (2097152 : Int64) + (s &&& (2097151 : Int32)).toInt64).toInt = v3 at *
  generalize (f.toInt64 * (2097152 : Int64)).toInt = v4 at *
  rw [e2] at e4
  generalize (s &&& (2097151 : Int32)).toInt = v5 at *
  generalize f.toInt = v6 at *
  omega
theorem d1_0 : decode prog_71_method_1_code 0 = .ok (.aload_n 0, 1) := by decide +kernel
theorem d1_1 : decode prog_71_method_1_code 1 = .ok (.invokespecial 3, 3) := by decide +kernel
theorem tw10 : (Jvm.Cond.methodLink "com/example/docstride/docstride/search/words/CodePointTables" (3 : Nat) ({ cls := "java/lang/Object", name := "<init>", desc := "()V" } : Jvm.MethodName)) ∈ tables_1 := List.mem_of_getElem? (i := 10) rfl
theorem tw11 : (Jvm.Cond.instanceMethod ({ cls := "java/lang/Object", name := "<init>", desc := "()V" } : Jvm.MethodName)) ∈ tables_1 := List.mem_of_getElem? (i := 11) rfl
theorem tw12 : (Jvm.Cond.code ({ cls := "java/lang/Object", name := "<init>", desc := "()V" } : Jvm.MethodName) object_method_1_code (1 : Nat) (Option.none : Option Jvm.ClassFile.FieldType)) ∈ tables_1 := List.mem_of_getElem? (i := 12) rfl
theorem d1_4 : decode prog_71_method_1_code 4 = .ok (.aload_n 0, 1) := by decide +kernel
theorem d1_5 : decode prog_71_method_1_code 5 = .ok (.aload_n 1, 1) := by decide +kernel
theorem d1_6 : decode prog_71_method_1_code 6 = .ok (.putfield 9, 3) := by decide +kernel
theorem tw13 : (Jvm.Cond.fieldLink "com/example/docstride/docstride/search/words/CodePointTables" (9 : Nat) "com/example/docstride/docstride/search/words/CodePointTables" "blockOf" "[I") ∈ tables_1 := List.mem_of_getElem? (i := 13) rfl
theorem tw14 : (Jvm.Cond.laysFinal "com/example/docstride/docstride/search/words/CodePointTables" "com/example/docstride/docstride/search/words/CodePointTables" "blockOf" "[I") ∈ tables_1 := List.mem_of_getElem? (i := 14) rfl
theorem tw5 : (Jvm.Cond.instantiable "com/example/docstride/docstride/search/words/CodePointTables" (9 : Nat)) ∈ tables_1 := List.mem_of_getElem? (i := 5) rfl
theorem d1_9 : decode prog_71_method_1_code 9 = .ok (.aload_n 0, 1) := by decide +kernel
theorem d1_10 : decode prog_71_method_1_code 10 = .ok (.aload_n 2, 1) := by decide +kernel
theorem d1_11 : decode prog_71_method_1_code 11 = .ok (.putfield 13, 3) := by decide +kernel
theorem tw15 : (Jvm.Cond.fieldLink "com/example/docstride/docstride/search/words/CodePointTables" (13 : Nat) "com/example/docstride/docstride/search/words/CodePointTables" "blocks" "[I") ∈ tables_1 := List.mem_of_getElem? (i := 15) rfl
theorem tw16 : (Jvm.Cond.laysFinal "com/example/docstride/docstride/search/words/CodePointTables" "com/example/docstride/docstride/search/words/CodePointTables" "blocks" "[I") ∈ tables_1 := List.mem_of_getElem? (i := 16) rfl
theorem d1_14 : decode prog_71_method_1_code 14 = .ok (.aload_n 0, 1) := by decide +kernel
theorem d1_15 : decode prog_71_method_1_code 15 = .ok (.aload_n 3, 1) := by decide +kernel
theorem d1_16 : decode prog_71_method_1_code 16 = .ok (.putfield 16, 3) := by decide +kernel
theorem tw17 : (Jvm.Cond.fieldLink "com/example/docstride/docstride/search/words/CodePointTables" (16 : Nat) "com/example/docstride/docstride/search/words/CodePointTables" "foldingStarts" "[I") ∈ tables_1 := List.mem_of_getElem? (i := 17) rfl
theorem tw18 : (Jvm.Cond.laysFinal "com/example/docstride/docstride/search/words/CodePointTables" "com/example/docstride/docstride/search/words/CodePointTables" "foldingStarts" "[I") ∈ tables_1 := List.mem_of_getElem? (i := 18) rfl
theorem d1_19 : decode prog_71_method_1_code 19 = .ok (.aload_n 0, 1) := by decide +kernel
theorem d1_20 : decode prog_71_method_1_code 20 = .ok (.aload 4, 2) := by decide +kernel
theorem d1_22 : decode prog_71_method_1_code 22 = .ok (.putfield 19, 3) := by decide +kernel
theorem tw19 : (Jvm.Cond.fieldLink "com/example/docstride/docstride/search/words/CodePointTables" (19 : Nat) "com/example/docstride/docstride/search/words/CodePointTables" "folded" "[I") ∈ tables_1 := List.mem_of_getElem? (i := 19) rfl
theorem tw20 : (Jvm.Cond.laysFinal "com/example/docstride/docstride/search/words/CodePointTables" "com/example/docstride/docstride/search/words/CodePointTables" "folded" "[I") ∈ tables_1 := List.mem_of_getElem? (i := 20) rfl
theorem d1_25 : decode prog_71_method_1_code 25 = .ok (.aload_n 0, 1) := by decide +kernel
theorem d1_26 : decode prog_71_method_1_code 26 = .ok (.aload 5, 2) := by decide +kernel
theorem d1_28 : decode prog_71_method_1_code 28 = .ok (.putfield 22, 3) := by decide +kernel
theorem tw21 : (Jvm.Cond.fieldLink "com/example/docstride/docstride/search/words/CodePointTables" (22 : Nat) "com/example/docstride/docstride/search/words/CodePointTables" "decomposed" "[I") ∈ tables_1 := List.mem_of_getElem? (i := 21) rfl
theorem tw22 : (Jvm.Cond.laysFinal "com/example/docstride/docstride/search/words/CodePointTables" "com/example/docstride/docstride/search/words/CodePointTables" "decomposed" "[I") ∈ tables_1 := List.mem_of_getElem? (i := 22) rfl
theorem d1_31 : decode prog_71_method_1_code 31 = .ok (.aload_n 0, 1) := by decide +kernel
theorem d1_32 : decode prog_71_method_1_code 32 = .ok (.aload 6, 2) := by decide +kernel
theorem d1_34 : decode prog_71_method_1_code 34 = .ok (.putfield 25, 3) := by decide +kernel
theorem tw23 : (Jvm.Cond.fieldLink "com/example/docstride/docstride/search/words/CodePointTables" (25 : Nat) "com/example/docstride/docstride/search/words/CodePointTables" "decompositionStarts" "[I") ∈ tables_1 := List.mem_of_getElem? (i := 23) rfl
theorem tw24 : (Jvm.Cond.laysFinal "com/example/docstride/docstride/search/words/CodePointTables" "com/example/docstride/docstride/search/words/CodePointTables" "decompositionStarts" "[I") ∈ tables_1 := List.mem_of_getElem? (i := 24) rfl
theorem d1_37 : decode prog_71_method_1_code 37 = .ok (.aload_n 0, 1) := by decide +kernel
theorem d1_38 : decode prog_71_method_1_code 38 = .ok (.aload 7, 2) := by decide +kernel
theorem d1_40 : decode prog_71_method_1_code 40 = .ok (.putfield 28, 3) := by decide +kernel
theorem tw25 : (Jvm.Cond.fieldLink "com/example/docstride/docstride/search/words/CodePointTables" (28 : Nat) "com/example/docstride/docstride/search/words/CodePointTables" "decompositions" "[I") ∈ tables_1 := List.mem_of_getElem? (i := 25) rfl
theorem tw26 : (Jvm.Cond.laysFinal "com/example/docstride/docstride/search/words/CodePointTables" "com/example/docstride/docstride/search/words/CodePointTables" "decompositions" "[I") ∈ tables_1 := List.mem_of_getElem? (i := 26) rfl
theorem d1_43 : decode prog_71_method_1_code 43 = .ok (.aload_n 0, 1) := by decide +kernel
theorem d1_44 : decode prog_71_method_1_code 44 = .ok (.aload 8, 2) := by decide +kernel
theorem d1_46 : decode prog_71_method_1_code 46 = .ok (.putfield 31, 3) := by decide +kernel
theorem tw27 : (Jvm.Cond.fieldLink "com/example/docstride/docstride/search/words/CodePointTables" (31 : Nat) "com/example/docstride/docstride/search/words/CodePointTables" "pairs" "[J") ∈ tables_1 := List.mem_of_getElem? (i := 27) rfl
theorem tw28 : (Jvm.Cond.laysFinal "com/example/docstride/docstride/search/words/CodePointTables" "com/example/docstride/docstride/search/words/CodePointTables" "pairs" "[J") ∈ tables_1 := List.mem_of_getElem? (i := 28) rfl
theorem d1_49 : decode prog_71_method_1_code 49 = .ok (.aload_n 0, 1) := by decide +kernel
theorem d1_50 : decode prog_71_method_1_code 50 = .ok (.aload 9, 2) := by decide +kernel
theorem d1_52 : decode prog_71_method_1_code 52 = .ok (.putfield 35, 3) := by decide +kernel
theorem tw29 : (Jvm.Cond.fieldLink "com/example/docstride/docstride/search/words/CodePointTables" (35 : Nat) "com/example/docstride/docstride/search/words/CodePointTables" "composites" "[I") ∈ tables_1 := List.mem_of_getElem? (i := 29) rfl
theorem tw30 : (Jvm.Cond.laysFinal "com/example/docstride/docstride/search/words/CodePointTables" "com/example/docstride/docstride/search/words/CodePointTables" "composites" "[I") ∈ tables_1 := List.mem_of_getElem? (i := 30) rfl
theorem d1_55 : decode prog_71_method_1_code 55 = .ok (.return_, 1) := by decide +kernel
theorem ef1 (m : MethodId) (x0 : Addr) (x1 : Addr) (x2 : Addr) (x3 : Addr) (x4 : Addr) (x5 : Addr) (x6 : Addr) (x7 : Addr) (x8 : Addr) (x9 : Addr) : entryFrame m #[(.ref x0), (.ref x1), (.ref x2), (.ref x3), (.ref x4), (.ref x5), (.ref x6), (.ref x7), (.ref x8), (.ref x9)] 10 = mkF m 0 #[.val (.ref x0), .val (.ref x1), .val (.ref x2), .val (.ref x3), .val (.ref x4), .val (.ref x5), .val (.ref x6), .val (.ref x7), .val (.ref x8), .val (.ref x9)] [] := by first | (simp [entryFrame, mkF, argsToLocals, Value.category]; done) | rfl
def Q1 (Z : State) (a0_ : Addr) (x_blockOf : Addr) (x_blocks : Addr) (x_foldingStarts : Addr) (x_folded : Addr) (x_decomposed : Addr) (x_decompositionStarts : Addr) (x_decompositions : Addr) (x_pairs : Addr) (x_composites : Addr) (h0 : Heap) (n0 : Nat) (v : Option Value) (h : Heap) (L : List Loc) : Prop := v = none ∧ Fr n0 L ∧ Keep h0 h [a0_] ∧ Exa Z h a0_ "com/example/docstride/docstride/search/words/CodePointTables" ∧ Fld Z h a0_ "com/example/docstride/docstride/search/words/CodePointTables" "blockOf" "[I" (.ref x_blockOf) ∧ Fld Z h a0_ "com/example/docstride/docstride/search/words/CodePointTables" "blocks" "[I" (.ref x_blocks) ∧ Fld Z h a0_ "com/example/docstride/docstride/search/words/CodePointTables" "foldingStarts" "[I" (.ref x_foldingStarts) ∧ Fld Z h a0_ "com/example/docstride/docstride/search/words/CodePointTables" "folded" "[I" (.ref x_folded) ∧ Fld Z h a0_ "com/example/docstride/docstride/search/words/CodePointTables" "decomposed" "[I" (.ref x_decomposed) ∧ Fld Z h a0_ "com/example/docstride/docstride/search/words/CodePointTables" "decompositionStarts" "[I" (.ref x_decompositionStarts) ∧ Fld Z h a0_ "com/example/docstride/docstride/search/words/CodePointTables" "decompositions" "[I" (.ref x_decompositions) ∧ Fld Z h a0_ "com/example/docstride/docstride/search/words/CodePointTables" "pairs" "[J" (.ref x_pairs) ∧ Fld Z h a0_ "com/example/docstride/docstride/search/words/CodePointTables" "composites" "[I" (.ref x_composites)
theorem pn30 : plainName "com/example/docstride/docstride/search/words/CodePointTables" = true := by first | (simp [plainName, overriddenIn]; done) | decide +kernel
theorem rm1 (l : Launch) (Z : State) (a0 : Array Value) (hw : ∀ d ∈ tables_1, d.before a0 Z = true) (ws : List Jvm.Cond) (a0_ : Addr) (x_blockOf : Addr) (x_blocks : Addr) (x_foldingStarts : Addr) (x_folded : Addr) (x_decomposed : Addr) (x_decompositionStarts : Addr) (x_decompositions : Addr) (x_pairs : Addr) (x_composites : Addr) (h0 : Heap) (n0 : Nat) (Z0 : n0 ≤ h0.size) (O0 : Old Z n0 h0) (E0 : Exa Z h0 a0_ "com/example/docstride/docstride/search/words/CodePointTables") (g0 : n0 ≤ a0_) (F_blockOf : Fld Z h0 a0_ "com/example/docstride/docstride/search/words/CodePointTables" "blockOf" "[I" .null) (F_blocks : Fld Z h0 a0_ "com/example/docstride/docstride/search/words/CodePointTables" "blocks" "[I" .null) (F_foldingStarts : Fld Z h0 a0_ "com/example/docstride/docstride/search/words/CodePointTables" "foldingStarts" "[I" .null) (F_folded : Fld Z h0 a0_ "com/example/docstride/docstride/search/words/CodePointTables" "folded" "[I" .null) (F_decomposed : Fld Z h0 a0_ "com/example/docstride/docstride/search/words/CodePointTables" "decomposed" "[I" .null) (F_decompositionStarts : Fld Z h0 a0_ "com/example/docstride/docstride/search/words/CodePointTables" "decompositionStarts" "[I" .null) (F_decompositions : Fld Z h0 a0_ "com/example/docstride/docstride/search/words/CodePointTables" "decompositions" "[I" .null) (F_pairs : Fld Z h0 a0_ "com/example/docstride/docstride/search/words/CodePointTables" "pairs" "[J" .null) (F_composites : Fld Z h0 a0_ "com/example/docstride/docstride/search/words/CodePointTables" "composites" "[I" .null) :
    Met l Z ws (⟨"com/example/docstride/docstride/search/words/CodePointTables", "<init>", "([I[I[I[I[I[I[I[J[I)V"⟩ : MethodName) prog_71_method_1_code 10 none (Rm 1 0 0 12) #[(.ref a0_), (.ref x_blockOf), (.ref x_blocks), (.ref x_foldingStarts), (.ref x_folded), (.ref x_decomposed), (.ref x_decompositionStarts), (.ref x_decompositions), (.ref x_pairs), (.ref x_composites)] h0 (Q1 Z a0_ x_blockOf x_blocks x_foldingStarts x_folded x_decomposed x_decompositionStarts x_decompositions x_pairs x_composites h0 n0) := by
  refine Met.enter (L0 := #[.val (.ref a0_), .val (.ref x_blockOf), .val (.ref x_blocks), .val (.ref x_foldingStarts), .val (.ref x_folded), .val (.ref x_decomposed), .val (.ref x_decompositionStarts), .val (.ref x_decompositions), .val (.ref x_pairs), .val (.ref x_composites)]) (plainFor_of_name pn30) (fun m => ef1 m a0_ x_blockOf x_blocks x_foldingStarts x_folded x_decomposed x_decompositionStarts x_decompositions x_pairs x_composites) ?_
  intro p e s m below meth c s₁ hx hby hml hown hnm hret hlk hZ X0 e0
  have N0 := Fr.nil n0
  have K0 : Keep h0 h0 [a0_] := Keep.refl h0 _
  refine Go.st (t' := s₁.setTop (mkF m 1 #[.val (.ref a0_), .val (.ref x_blockOf), .val (.ref x_blocks), .val (.ref x_foldingStarts), .val (.ref x_folded), .val (.ref x_decomposed), .val (.ref x_decompositionStarts), .val (.ref x_decompositions), .val (.ref x_pairs), .val (.ref x_composites)] [(.ref a0_)])) (fun target kt => ?_) ?_
  · refine XS.aloadN X0.here hx rfl (hb hby d1_0) rfl rfl ?_
    exact kt
  obtain ⟨T10, X10, e10, st10⟩ := initO X0 hx hZ hown (hw _ tw10) (hw _ tw11) (hw _ tw12) e0 (g := (mkF m 1 #[.val (.ref a0_), .val (.ref x_blockOf), .val (.ref x_blocks), .val (.ref x_foldingStarts), .val (.ref x_folded), .val (.ref x_decomposed), .val (.ref x_decompositionStarts), .val (.ref x_decompositions), .val (.ref x_pairs), .val (.ref x_composites)] [(.ref a0_)])) rfl (by rw [hml]; rfl) rfl (hb hby d1_1) (by decide) (W := 0) (by show 2 * 0 + _ ≤ _; exact Nat.le_of_eq rfl) (by decide)
  refine Go.st st10 ?_
  show Go _ _ _ _ _ _ _ (T10.setTop (mkF m 4 _ []))
  refine Go.st (t' := T10.setTop (mkF m 6 #[.val (.ref a0_), .val (.ref x_blockOf), .val (.ref x_blocks), .val (.ref x_foldingStarts), .val (.ref x_folded), .val (.ref x_decomposed), .val (.ref x_decompositionStarts), .val (.ref x_decompositions), .val (.ref x_pairs), .val (.ref x_composites)] [(.ref x_blockOf), (.ref a0_)])) (fun target kt => ?_) ?_
  · refine XS.aloadN X10.here hx rfl (hb hby d1_4) rfl rfl ?_
    show Steps p.tables e below (T10.setTop (mkF m 5 _ [(.ref a0_)])) target
    refine XS.aloadN X10.here hx rfl (hb hby d1_5) rfl rfl ?_
    exact kt
  obtain ⟨T11, h11, X11, e11, W11, st11⟩ := putF X10 hx hZ hown (host := "") (Or.inl (hw _ tw13)) Via.refl e10 F_blockOf E0 (Or.inr ⟨(hw _ tw14), rfl, hnm⟩) (hw _ tw5) (ty := (.array .int)) (by decide) rfl rfl (g := (mkF m 6 #[.val (.ref a0_), .val (.ref x_blockOf), .val (.ref x_blocks), .val (.ref x_foldingStarts), .val (.ref x_folded), .val (.ref x_decomposed), .val (.ref x_decompositionStarts), .val (.ref x_decompositions), .val (.ref x_pairs), .val (.ref x_composites)] [(.ref x_blockOf), (.ref a0_)])) rfl rfl (hb hby d1_6)
  have F12 : Fld Z h11 a0_ "com/example/docstride/docstride/search/words/CodePointTables" "blockOf" "[I" (.ref x_blockOf) := F_blockOf.same W11
  have K13 := K0.wr W11 (Or.inl (List.mem_of_getElem? (i := 0) rfl))
  have O14 := O0.wr W11 g0
  have N11 := Fr.snoc X11 N0 g0
  refine Go.st st11 ?_
  show Go _ _ _ _ _ _ _ (T11.setTop (mkF m 9 _ []))
  refine Go.st (t' := T11.setTop (mkF m 11 #[.val (.ref a0_), .val (.ref x_blockOf), .val (.ref x_blocks), .val (.ref x_foldingStarts), .val (.ref x_folded), .val (.ref x_decomposed), .val (.ref x_decompositionStarts), .val (.ref x_decompositions), .val (.ref x_pairs), .val (.ref x_composites)] [(.ref x_blocks), (.ref a0_)])) (fun target kt => ?_) ?_
  · refine XS.aloadN X11.here hx rfl (hb hby d1_9) rfl rfl ?_
    show Steps p.tables e below (T11.setTop (mkF m 10 _ [(.ref a0_)])) target
    refine XS.aloadN X11.here hx rfl (hb hby d1_10) rfl rfl ?_
    exact kt
  have c15 := F_blocks.other W11 (Or.inr (slot_ne (Or.inr (hw _ tw16)) (Or.inr (hw _ tw14)) (by decide) (t := (.array .int)) (t' := (.array .int)) (by decide) (by decide)))
  have c16 := E0.wr W11
  obtain ⟨T17, h17, X17, e17, W17, st17⟩ := putF X11 hx hZ hown (host := "") (Or.inl (hw _ tw15)) Via.refl e11 c15 c16 (Or.inr ⟨(hw _ tw16), rfl, hnm⟩) (hw _ tw5) (ty := (.array .int)) (by decide) rfl rfl (g := (mkF m 11 #[.val (.ref a0_), .val (.ref x_blockOf), .val (.ref x_blocks), .val (.ref x_foldingStarts), .val (.ref x_folded), .val (.ref x_decomposed), .val (.ref x_decompositionStarts), .val (.ref x_decompositions), .val (.ref x_pairs), .val (.ref x_composites)] [(.ref x_blocks), (.ref a0_)])) rfl rfl (hb hby d1_11)
  have F18 : Fld Z h17 a0_ "com/example/docstride/docstride/search/words/CodePointTables" "blocks" "[I" (.ref x_blocks) := c15.same W17
  have K19 := K13.wr W17 (Or.inl (List.mem_of_getElem? (i := 0) rfl))
  have O20 := O14.wr W17 g0
  have N17 := Fr.snoc X17 N11 g0
  refine Go.st st17 ?_
  show Go _ _ _ _ _ _ _ (T17.setTop (mkF m 14 _ []))
  refine Go.st (t' := T17.setTop (mkF m 16 #[.val (.ref a0_), .val (.ref x_blockOf), .val (.ref x_blocks), .val (.ref x_foldingStarts), .val (.ref x_folded), .val (.ref x_decomposed), .val (.ref x_decompositionStarts), .val (.ref x_decompositions), .val (.ref x_pairs), .val (.ref x_composites)] [(.ref x_foldingStarts), (.ref a0_)])) (fun target kt => ?_) ?_
  · refine XS.aloadN X17.here hx rfl (hb hby d1_14) rfl rfl ?_
    show Steps p.tables e below (T17.setTop (mkF m 15 _ [(.ref a0_)])) target
    refine XS.aloadN X17.here hx rfl (hb hby d1_15) rfl rfl ?_
    exact kt
  have c21 := (F_foldingStarts.other W11 (Or.inr (slot_ne (Or.inr (hw _ tw18)) (Or.inr (hw _ tw14)) (by decide) (t := (.array .int)) (t' := (.array .int)) (by decide) (by decide)))).other W17 (Or.inr (slot_ne (Or.inr (hw _ tw18)) (Or.inr (hw _ tw16)) (by decide) (t := (.array .int)) (t' := (.array .int)) (by decide) (by decide)))
  have c22 := c16.wr W17
  obtain ⟨T23, h23, X23, e23, W23, st23⟩ := putF X17 hx hZ hown (host := "") (Or.inl (hw _ tw17)) Via.refl e17 c21 c22 (Or.inr ⟨(hw _ tw18), rfl, hnm⟩) (hw _ tw5) (ty := (.array .int)) (by decide) rfl rfl (g := (mkF m 16 #[.val (.ref a0_), .val (.ref x_blockOf), .val (.ref x_blocks), .val (.ref x_foldingStarts), .val (.ref x_folded), .val (.ref x_decomposed), .val (.ref x_decompositionStarts), .val (.ref x_decompositions), .val (.ref x_pairs), .val (.ref x_composites)] [(.ref x_foldingStarts), (.ref a0_)])) rfl rfl (hb hby d1_16)
  have F24 : Fld Z h23 a0_ "com/example/docstride/docstride/search/words/CodePointTables" "foldingStarts" "[I" (.ref x_foldingStarts) := c21.same W23
  have K25 := K19.wr W23 (Or.inl (List.mem_of_getElem? (i := 0) rfl))
  have O26 := O20.wr W23 g0
  have N23 := Fr.snoc X23 N17 g0
  refine Go.st st23 ?_
  show Go _ _ _ _ _ _ _ (T23.setTop (mkF m 19 _ []))
  refine Go.st (t' := T23.setTop (mkF m 22 #[.val (.ref a0_), .val (.ref x_blockOf), .val (.ref x_blocks), .val (.ref x_foldingStarts), .val (.ref x_folded), .val (.ref x_decomposed), .val (.ref x_decompositionStarts), .val (.ref x_decompositions), .val (.ref x_pairs), .val (.ref x_composites)] [(.ref x_folded), (.ref a0_)])) (fun target kt => ?_) ?_
  · refine XS.aloadN X23.here hx rfl (hb hby d1_19) rfl rfl ?_
    show Steps p.tables e below (T23.setTop (mkF m 20 _ [(.ref a0_)])) target
    refine XS.aload X23.here hx rfl (hb hby d1_20) rfl rfl ?_
    exact kt
  have c27 := ((F_folded.other W11 (Or.inr (slot_ne (Or.inr (hw _ tw20)) (Or.inr (hw _ tw14)) (by decide) (t := (.array .int)) (t' := (.array .int)) (by decide) (by decide)))).other W17 (Or.inr (slot_ne (Or.inr (hw _ tw20)) (Or.inr (hw _ tw16)) (by decide) (t := (.array .int)) (t' := (.array .int)) (by decide) (by decide)))).other W23 (Or.inr (slot_ne (Or.inr (hw _ tw20)) (Or.inr (hw _ tw18)) (by decide) (t := (.array .int)) (t' := (.array .int)) (by decide) (by decide)))
  have c28 := c22.wr W23
  obtain ⟨T29, h29, X29, e29, W29, st29⟩ := putF X23 hx hZ hown (host := "") (Or.inl (hw _ tw19)) Via.refl e23 c27 c28 (Or.inr ⟨(hw _ tw20), rfl, hnm⟩) (hw _ tw5) (ty := (.array .int)) (by decide) rfl rfl (g := (mkF m 22 #[.val (.ref a0_), .val (.ref x_blockOf), .val (.ref x_blocks), .val (.ref x_foldingStarts), .val (.ref x_folded), .val (.ref x_decomposed), .val (.ref x_decompositionStarts), .val (.ref x_decompositions), .val (.ref x_pairs), .val (.ref x_composites)] [(.ref x_folded), (.ref a0_)])) rfl rfl (hb hby d1_22)
  have F30 : Fld Z h29 a0_ "com/example/docstride/docstride/search/words/CodePointTables" "folded" "[I" (.ref x_folded) := c27.same W29
  have K31 := K25.wr W29 (Or.inl (List.mem_of_getElem? (i := 0) rfl))
  have O32 := O26.wr W29 g0
  have N29 := Fr.snoc X29 N23 g0
  refine Go.st st29 ?_
  show Go _ _ _ _ _ _ _ (T29.setTop (mkF m 25 _ []))
  refine Go.st (t' := T29.setTop (mkF m 28 #[.val (.ref a0_), .val (.ref x_blockOf), .val (.ref x_blocks), .val (.ref x_foldingStarts), .val (.ref x_folded), .val (.ref x_decomposed), .val (.ref x_decompositionStarts), .val (.ref x_decompositions), .val (.ref x_pairs), .val (.ref x_composites)] [(.ref x_decomposed), (.ref a0_)])) (fun target kt => ?_) ?_
  · refine XS.aloadN X29.here hx rfl (hb hby d1_25) rfl rfl ?_
    show Steps p.tables e below (T29.setTop (mkF m 26 _ [(.ref a0_)])) target
    refine XS.aload X29.here hx rfl (hb hby d1_26) rfl rfl ?_
    exact kt
  have c33 := (((F_decomposed.other W11 (Or.inr (slot_ne (Or.inr (hw _ tw22)) (Or.inr (hw _ tw14)) (by decide) (t := (.array .int)) (t' := (.array .int)) (by decide) (by decide)))).other W17 (Or.inr (slot_ne (Or.inr (hw _ tw22)) (Or.inr (hw _ tw16)) (by decide) (t := (.array .int)) (t' := (.array .int)) (by decide) (by decide)))).other W23 (Or.inr (slot_ne (Or.inr (hw _ tw22)) (Or.inr (hw _ tw18)) (by decide) (t := (.array .int)) (t' := (.array .int)) (by decide) (by decide)))).other W29 (Or.inr (slot_ne (Or.inr (hw _ tw22)) (Or.inr (hw _ tw20)) (by decide) (t := (.array .int)) (t' := (.array .int)) (by decide) (by decide)))
  have c34 := c28.wr W29
  obtain ⟨T35, h35, X35, e35, W35, st35⟩ := putF X29 hx hZ hown (host := "") (Or.inl (hw _ tw21)) Via.refl e29 c33 c34 (Or.inr ⟨(hw _ tw22), rfl, hnm⟩) (hw _ tw5) (ty := (.array .int)) (by decide) rfl rfl (g := (mkF m 28 #[.val (.ref a0_), .val (.ref x_blockOf), .val (.ref x_blocks), .val (.ref x_foldingStarts), .val (.ref x_folded), .val (.ref x_decomposed), .val (.ref x_decompositionStarts), .val (.ref x_decompositions), .val (.ref x_pairs), .val (.ref x_composites)] [(.ref x_decomposed), (.ref a0_)])) rfl rfl (hb hby d1_28)
  have F36 : Fld Z h35 a0_ "com/example/docstride/docstride/search/words/CodePointTables" "decomposed" "[I" (.ref x_decomposed) := c33.same W35
  have K37 := K31.wr W35 (Or.inl (List.mem_of_getElem? (i := 0) rfl))
  have O38 := O32.wr W35 g0
  have N35 := Fr.snoc X35 N29 g0
  refine Go.st st35 ?_
  show Go _ _ _ _ _ _ _ (T35.setTop (mkF m 31 _ []))
  refine Go.st (t' := T35.setTop (mkF m 34 #[.val (.ref a0_), .val (.ref x_blockOf), .val (.ref x_blocks), .val (.ref x_foldingStarts), .val (.ref x_folded), .val (.ref x_decomposed), .val (.ref x_decompositionStarts), .val (.ref x_decompositions), .val (.ref x_pairs), .val (.ref x_composites)] [(.ref x_decompositionStarts), (.ref a0_)])) (fun target kt => ?_) ?_
  · refine XS.aloadN X35.here hx rfl (hb hby d1_31) rfl rfl ?_
    show Steps p.tables e below (T35.setTop (mkF m 32 _ [(.ref a0_)])) target
    refine XS.aload X35.here hx rfl (hb hby d1_32) rfl rfl ?_
    exact kt
  have c39 := ((((F_decompositionStarts.other W11 (Or.inr (slot_ne (Or.inr (hw _ tw24)) (Or.inr (hw _ tw14)) (by decide) (t := (.array .int)) (t' := (.array .int)) (by decide) (by decide)))).other W17 (Or.inr (slot_ne (Or.inr (hw _ tw24)) (Or.inr (hw _ tw16)) (by decide) (t := (.array .int)) (t' := (.array .int)) (by decide) (by decide)))).other W23 (Or.inr (slot_ne (Or.inr (hw _ tw24)) (Or.inr (hw _ tw18)) (by decide) (t := (.array .int)) (t' := (.array .int)) (by decide) (by decide)))).other W29 (Or.inr (slot_ne (Or.inr (hw _ tw24)) (Or.inr (hw _ tw20)) (by decide) (t := (.array .int)) (t' := (.array .int)) (by decide) (by decide)))).other W35 (Or.inr (slot_ne (Or.inr (hw _ tw24)) (Or.inr (hw _ tw22)) (by decide) (t := (.array .int)) (t' := (.array .int)) (by decide) (by decide)))
  have c40 := c34.wr W35
  obtain ⟨T41, h41, X41, e41, W41, st41⟩ := putF X35 hx hZ hown (host := "") (Or.inl (hw _ tw23)) Via.refl e35 c39 c40 (Or.inr ⟨(hw _ tw24), rfl, hnm⟩) (hw _ tw5) (ty := (.array .int)) (by decide) rfl rfl (g := (mkF m 34 #[.val (.ref a0_), .val (.ref x_blockOf), .val (.ref x_blocks), .val (.ref x_foldingStarts), .val (.ref x_folded), .val (.ref x_decomposed), .val (.ref x_decompositionStarts), .val (.ref x_decompositions), .val (.ref x_pairs), .val (.ref x_composites)] [(.ref x_decompositionStarts), (.ref a0_)])) rfl rfl (hb hby d1_34)
  have F42 : Fld Z h41 a0_ "com/example/docstride/docstride/search/words/CodePointTables" "decompositionStarts" "[I" (.ref x_decompositionStarts) := c39.same W41
  have K43 := K37.wr W41 (Or.inl (List.mem_of_getElem? (i := 0) rfl))
  have O44 := O38.wr W41 g0
  have N41 := Fr.snoc X41 N35 g0
  refine Go.st st41 ?_
  show Go _ _ _ _ _ _ _ (T41.setTop (mkF m 37 _ []))
  refine Go.st (t' := T41.setTop (mkF m 40 #[.val (.ref a0_), .val (.ref x_blockOf), .val (.ref x_blocks), .val (.ref x_foldingStarts), .val (.ref x_folded), .val (.ref x_decomposed), .val (.ref x_decompositionStarts), .val (.ref x_decompositions), .val (.ref x_pairs), .val (.ref x_composites)] [(.ref x_decompositions), (.ref a0_)])) (fun target kt => ?_) ?_
  · refine XS.aloadN X41.here hx rfl (hb hby d1_37) rfl rfl ?_
    show Steps p.tables e below (T41.setTop (mkF m 38 _ [(.ref a0_)])) target
    refine XS.aload X41.here hx rfl (hb hby d1_38) rfl rfl ?_
    exact kt
  have c45 := (((((F_decompositions.other W11 (Or.inr (slot_ne (Or.inr (hw _ tw26)) (Or.inr (hw _ tw14)) (by decide) (t := (.array .int)) (t' := (.array .int)) (by decide) (by decide)))).other W17 (Or.inr (slot_ne (Or.inr (hw _ tw26)) (Or.inr (hw _ tw16)) (by decide) (t := (.array .int)) (t' := (.array .int)) (by decide) (by decide)))).other W23 (Or.inr (slot_ne (Or.inr (hw _ tw26)) (Or.inr (hw _ tw18)) (by decide) (t := (.array .int)) (t' := (.array .int)) (by decide) (by decide)))).other W29 (Or.inr (slot_ne (Or.inr (hw _ tw26)) (Or.inr (hw _ tw20)) (by decide) (t := (.array .int)) (t' := (.array .int)) (by decide) (by decide)))).other W35 (Or.inr (slot_ne (Or.inr (hw _ tw26)) (Or.inr (hw _ tw22)) (by decide) (t := (.array .int)) (t' := (.array .int)) (by decide) (by decide)))).other W41 (Or.inr (slot_ne (Or.inr (hw _ tw26)) (Or.inr (hw _ tw24)) (by decide) (t := (.array .int)) (t' := (.array .int)) (by decide) (by decide)))
  have c46 := c40.wr W41
  obtain ⟨T47, h47, X47, e47, W47, st47⟩ := putF X41 hx hZ hown (host := "") (Or.inl (hw _ tw25)) Via.refl e41 c45 c46 (Or.inr ⟨(hw _ tw26), rfl, hnm⟩) (hw _ tw5) (ty := (.array .int)) (by decide) rfl rfl (g := (mkF m 40 #[.val (.ref a0_), .val (.ref x_blockOf), .val (.ref x_blocks), .val (.ref x_foldingStarts), .val (.ref x_folded), .val (.ref x_decomposed), .val (.ref x_decompositionStarts), .val (.ref x_decompositions), .val (.ref x_pairs), .val (.ref x_composites)] [(.ref x_decompositions), (.ref a0_)])) rfl rfl (hb hby d1_40)
  have F48 : Fld Z h47 a0_ "com/example/docstride/docstride/search/words/CodePointTables" "decompositions" "[I" (.ref x_decompositions) := c45.same W47
  have K49 := K43.wr W47 (Or.inl (List.mem_of_getElem? (i := 0) rfl))
  have O50 := O44.wr W47 g0
  have N47 := Fr.snoc X47 N41 g0
  refine Go.st st47 ?_
  show Go _ _ _ _ _ _ _ (T47.setTop (mkF m 43 _ []))
  refine Go.st (t' := T47.setTop (mkF m 46 #[.val (.ref a0_), .val (.ref x_blockOf), .val (.ref x_blocks), .val (.ref x_foldingStarts), .val (.ref x_folded), .val (.ref x_decomposed), .val (.ref x_decompositionStarts), .val (.ref x_decompositions), .val (.ref x_pairs), .val (.ref x_composites)] [(.ref x_pairs), (.ref a0_)])) (fun target kt => ?_) ?_
  · refine XS.aloadN X47.here hx rfl (hb hby d1_43) rfl rfl ?_
    show Steps p.tables e below (T47.setTop (mkF m 44 _ [(.ref a0_)])) target
    refine XS.aload X47.here hx rfl (hb hby d1_44) rfl rfl ?_
    exact kt
  have c51 := ((((((F_pairs.other W11 (Or.inr (slot_ne (Or.inr (hw _ tw28)) (Or.inr (hw _ tw14)) (by decide) (t := (.array .long)) (t' := (.array .int)) (by decide) (by decide)))).other W17 (Or.inr (slot_ne (Or.inr (hw _ tw28)) (Or.inr (hw _ tw16)) (by decide) (t := (.array .long)) (t' := (.array .int)) (by decide) (by decide)))).other W23 (Or.inr (slot_ne (Or.inr (hw _ tw28)) (Or.inr (hw _ tw18)) (by decide) (t := (.array .long)) (t' := (.array .int)) (by decide) (by decide)))).other W29 (Or.inr (slot_ne (Or.inr (hw _ tw28)) (Or.inr (hw _ tw20)) (by decide) (t := (.array .long)) (t' := (.array .int)) (by decide) (by decide)))).other W35 (Or.inr (slot_ne (Or.inr (hw _ tw28)) (Or.inr (hw _ tw22)) (by decide) (t := (.array .long)) (t' := (.array .int)) (by decide) (by decide)))).other W41 (Or.inr (slot_ne (Or.inr (hw _ tw28)) (Or.inr (hw _ tw24)) (by decide) (t := (.array .long)) (t' := (.array .int)) (by decide) (by decide)))).other W47 (Or.inr (slot_ne (Or.inr (hw _ tw28)) (Or.inr (hw _ tw26)) (by decide) (t := (.array .long)) (t' := (.array .int)) (by decide) (by decide)))
  have c52 := c46.wr W47
  obtain ⟨T53, h53, X53, e53, W53, st53⟩ := putF X47 hx hZ hown (host := "") (Or.inl (hw _ tw27)) Via.refl e47 c51 c52 (Or.inr ⟨(hw _ tw28), rfl, hnm⟩) (hw _ tw5) (ty := (.array .long)) (by decide) rfl rfl (g := (mkF m 46 #[.val (.ref a0_), .val (.ref x_blockOf), .val (.ref x_blocks), .val (.ref x_foldingStarts), .val (.ref x_folded), .val (.ref x_decomposed), .val (.ref x_decompositionStarts), .val (.ref x_decompositions), .val (.ref x_pairs), .val (.ref x_composites)] [(.ref x_pairs), (.ref a0_)])) rfl rfl (hb hby d1_46)
  have F54 : Fld Z h53 a0_ "com/example/docstride/docstride/search/words/CodePointTables" "pairs" "[J" (.ref x_pairs) := c51.same W53
  have K55 := K49.wr W53 (Or.inl (List.mem_of_getElem? (i := 0) rfl))
  have O56 := O50.wr W53 g0
  have N53 := Fr.snoc X53 N47 g0
  refine Go.st st53 ?_
  show Go _ _ _ _ _ _ _ (T53.setTop (mkF m 49 _ []))
  refine Go.st (t' := T53.setTop (mkF m 52 #[.val (.ref a0_), .val (.ref x_blockOf), .val (.ref x_blocks), .val (.ref x_foldingStarts), .val (.ref x_folded), .val (.ref x_decomposed), .val (.ref x_decompositionStarts), .val (.ref x_decompositions), .val (.ref x_pairs), .val (.ref x_composites)] [(.ref x_composites), (.ref a0_)])) (fun target kt => ?_) ?_
  · refine XS.aloadN X53.here hx rfl (hb hby d1_49) rfl rfl ?_
    show Steps p.tables e below (T53.setTop (mkF m 50 _ [(.ref a0_)])) target
    refine XS.aload X53.here hx rfl (hb hby d1_50) rfl rfl ?_
    exact kt
  have c57 := (((((((F_composites.other W11 (Or.inr (slot_ne (Or.inr (hw _ tw30)) (Or.inr (hw _ tw14)) (by decide) (t := (.array .int)) (t' := (.array .int)) (by decide) (by decide)))).other W17 (Or.inr (slot_ne (Or.inr (hw _ tw30)) (Or.inr (hw _ tw16)) (by decide) (t := (.array .int)) (t' := (.array .int)) (by decide) (by decide)))).other W23 (Or.inr (slot_ne (Or.inr (hw _ tw30)) (Or.inr (hw _ tw18)) (by decide) (t := (.array .int)) (t' := (.array .int)) (by decide) (by decide)))).other W29 (Or.inr (slot_ne (Or.inr (hw _ tw30)) (Or.inr (hw _ tw20)) (by decide) (t := (.array .int)) (t' := (.array .int)) (by decide) (by decide)))).other W35 (Or.inr (slot_ne (Or.inr (hw _ tw30)) (Or.inr (hw _ tw22)) (by decide) (t := (.array .int)) (t' := (.array .int)) (by decide) (by decide)))).other W41 (Or.inr (slot_ne (Or.inr (hw _ tw30)) (Or.inr (hw _ tw24)) (by decide) (t := (.array .int)) (t' := (.array .int)) (by decide) (by decide)))).other W47 (Or.inr (slot_ne (Or.inr (hw _ tw30)) (Or.inr (hw _ tw26)) (by decide) (t := (.array .int)) (t' := (.array .int)) (by decide) (by decide)))).other W53 (Or.inr (slot_ne (Or.inr (hw _ tw30)) (Or.inr (hw _ tw28)) (by decide) (t := (.array .int)) (t' := (.array .long)) (by decide) (by decide)))
  have c58 := c52.wr W53
  obtain ⟨T59, h59, X59, e59, W59, st59⟩ := putF X53 hx hZ hown (host := "") (Or.inl (hw _ tw29)) Via.refl e53 c57 c58 (Or.inr ⟨(hw _ tw30), rfl, hnm⟩) (hw _ tw5) (ty := (.array .int)) (by decide) rfl rfl (g := (mkF m 52 #[.val (.ref a0_), .val (.ref x_blockOf), .val (.ref x_blocks), .val (.ref x_foldingStarts), .val (.ref x_folded), .val (.ref x_decomposed), .val (.ref x_decompositionStarts), .val (.ref x_decompositions), .val (.ref x_pairs), .val (.ref x_composites)] [(.ref x_composites), (.ref a0_)])) rfl rfl (hb hby d1_52)
  have F60 : Fld Z h59 a0_ "com/example/docstride/docstride/search/words/CodePointTables" "composites" "[I" (.ref x_composites) := c57.same W59
  have K61 := K55.wr W59 (Or.inl (List.mem_of_getElem? (i := 0) rfl))
  have O62 := O56.wr W59 g0
  have N59 := Fr.snoc X59 N53 g0
  refine Go.st st59 ?_
  show Go _ _ _ _ _ _ _ (T59.setTop (mkF m 55 _ []))
  have c63 := c58.wr W59
  have c64 := (((((((F12.other W17 (Or.inr (slot_ne (Or.inr (hw _ tw14)) (Or.inr (hw _ tw16)) (by decide) (t := (.array .int)) (t' := (.array .int)) (by decide) (by decide)))).other W23 (Or.inr (slot_ne (Or.inr (hw _ tw14)) (Or.inr (hw _ tw18)) (by decide) (t := (.array .int)) (t' := (.array .int)) (by decide) (by decide)))).other W29 (Or.inr (slot_ne (Or.inr (hw _ tw14)) (Or.inr (hw _ tw20)) (by decide) (t := (.array .int)) (t' := (.array .int)) (by decide) (by decide)))).other W35 (Or.inr (slot_ne (Or.inr (hw _ tw14)) (Or.inr (hw _ tw22)) (by decide) (t := (.array .int)) (t' := (.array .int)) (by decide) (by decide)))).other W41 (Or.inr (slot_ne (Or.inr (hw _ tw14)) (Or.inr (hw _ tw24)) (by decide) (t := (.array .int)) (t' := (.array .int)) (by decide) (by decide)))).other W47 (Or.inr (slot_ne (Or.inr (hw _ tw14)) (Or.inr (hw _ tw26)) (by decide) (t := (.array .int)) (t' := (.array .int)) (by decide) (by decide)))).other W53 (Or.inr (slot_ne (Or.inr (hw _ tw14)) (Or.inr (hw _ tw28)) (by decide) (t := (.array .int)) (t' := (.array .long)) (by decide) (by decide)))).other W59 (Or.inr (slot_ne (Or.inr (hw _ tw14)) (Or.inr (hw _ tw30)) (by decide) (t := (.array .int)) (t' := (.array .int)) (by decide) (by decide)))
  have c65 := ((((((F18.other W23 (Or.inr (slot_ne (Or.inr (hw _ tw16)) (Or.inr (hw _ tw18)) (by decide) (t := (.array .int)) (t' := (.array .int)) (by decide) (by decide)))).other W29 (Or.inr (slot_ne (Or.inr (hw _ tw16)) (Or.inr (hw _ tw20)) (by decide) (t := (.array .int)) (t' := (.array .int)) (by decide) (by decide)))).other W35 (Or.inr (slot_ne (Or.inr (hw _ tw16)) (Or.inr (hw _ tw22)) (by decide) (t := (.array .int)) (t' := (.array .int)) (by decide) (by decide)))).other W41 (Or.inr (slot_ne (Or.inr (hw _ tw16)) (Or.inr (hw _ tw24)) (by decide) (t := (.array .int)) (t' := (.array .int)) (by decide) (by decide)))).other W47 (Or.inr (slot_ne (Or.inr (hw _ tw16)) (Or.inr (hw _ tw26)) (by decide) (t := (.array .int)) (t' := (.array .int)) (by decide) (by decide)))).other W53 (Or.inr (slot_ne (Or.inr (hw _ tw16)) (Or.inr (hw _ tw28)) (by decide) (t := (.array .int)) (t' := (.array .long)) (by decide) (by decide)))).other W59 (Or.inr (slot_ne (Or.inr (hw _ tw16)) (Or.inr (hw _ tw30)) (by decide) (t := (.array .int)) (t' := (.array .int)) (by decide) (by decide)))
  have c66 := (((((F24.other W29 (Or.inr (slot_ne (Or.inr (hw _ tw18)) (Or.inr (hw _ tw20)) (by decide) (t := (.array .int)) (t' := (.array .int)) (by decide) (by decide)))).other W35 (Or.inr (slot_ne (Or.inr (hw _ tw18)) (Or.inr (hw _ tw22)) (by decide) (t := (.array .int)) (t' := (.array .int)) (by decide) (by decide)))).other W41 (Or.inr (slot_ne (Or.inr (hw _ tw18)) (Or.inr (hw _ tw24)) (by decide) (t := (.array .int)) (t' := (.array .int)) (by decide) (by decide)))).other W47 (Or.inr (slot_ne (Or.inr (hw _ tw18)) (Or.inr (hw _ tw26)) (by decide) (t := (.array .int)) (t' := (.array .int)) (by decide) (by decide)))).other W53 (Or.inr (slot_ne (Or.inr (hw _ tw18)) (Or.inr (hw _ tw28)) (by decide) (t := (.array .int)) (t' := (.array .long)) (by decide) (by decide)))).other W59 (Or.inr (slot_ne (Or.inr (hw _ tw18)) (Or.inr (hw _ tw30)) (by decide) (t := (.array .int)) (t' := (.array .int)) (by decide) (by decide)))
  have c67 := ((((F30.other W35 (Or.inr (slot_ne (Or.inr (hw _ tw20)) (Or.inr (hw _ tw22)) (by decide) (t := (.array .int)) (t' := (.array .int)) (by decide) (by decide)))).other W41 (Or.inr (slot_ne (Or.inr (hw _ tw20)) (Or.inr (hw _ tw24)) (by decide) (t := (.array .int)) (t' := (.array .int)) (by decide) (by decide)))).other W47 (Or.inr (slot_ne (Or.inr (hw _ tw20)) (Or.inr (hw _ tw26)) (by decide) (t := (.array .int)) (t' := (.array .int)) (by decide) (by decide)))).other W53 (Or.inr (slot_ne (Or.inr (hw _ tw20)) (Or.inr (hw _ tw28)) (by decide) (t := (.array .int)) (t' := (.array .long)) (by decide) (by decide)))).other W59 (Or.inr (slot_ne (Or.inr (hw _ tw20)) (Or.inr (hw _ tw30)) (by decide) (t := (.array .int)) (t' := (.array .int)) (by decide) (by decide)))
  have c68 := (((F36.other W41 (Or.inr (slot_ne (Or.inr (hw _ tw22)) (Or.inr (hw _ tw24)) (by decide) (t := (.array .int)) (t' := (.array .int)) (by decide) (by decide)))).other W47 (Or.inr (slot_ne (Or.inr (hw _ tw22)) (Or.inr (hw _ tw26)) (by decide) (t := (.array .int)) (t' := (.array .int)) (by decide) (by decide)))).other W53 (Or.inr (slot_ne (Or.inr (hw _ tw22)) (Or.inr (hw _ tw28)) (by decide) (t := (.array .int)) (t' := (.array .long)) (by decide) (by decide)))).other W59 (Or.inr (slot_ne (Or.inr (hw _ tw22)) (Or.inr (hw _ tw30)) (by decide) (t := (.array .int)) (t' := (.array .int)) (by decide) (by decide)))
  have c69 := ((F42.other W47 (Or.inr (slot_ne (Or.inr (hw _ tw24)) (Or.inr (hw _ tw26)) (by decide) (t := (.array .int)) (t' := (.array .int)) (by decide) (by decide)))).other W53 (Or.inr (slot_ne (Or.inr (hw _ tw24)) (Or.inr (hw _ tw28)) (by decide) (t := (.array .int)) (t' := (.array .long)) (by decide) (by decide)))).other W59 (Or.inr (slot_ne (Or.inr (hw _ tw24)) (Or.inr (hw _ tw30)) (by decide) (t := (.array .int)) (t' := (.array .int)) (by decide) (by decide)))
  have c70 := (F48.other W53 (Or.inr (slot_ne (Or.inr (hw _ tw26)) (Or.inr (hw _ tw28)) (by decide) (t := (.array .int)) (t' := (.array .long)) (by decide) (by decide)))).other W59 (Or.inr (slot_ne (Or.inr (hw _ tw26)) (Or.inr (hw _ tw30)) (by decide) (t := (.array .int)) (t' := (.array .int)) (by decide) (by decide)))
  have c71 := F54.other W59 (Or.inr (slot_ne (Or.inr (hw _ tw28)) (Or.inr (hw _ tw30)) (by decide) (t := (.array .long)) (t' := (.array .int)) (by decide) (by decide)))
  refine Go.ret X59 (v := none) (fun _ => rfl) hlk (fun fs hr => X59.returnOut hx hret (hb hby d1_55) hr) ?_ (by decide) (by decide)
  show Q1 Z a0_ x_blockOf x_blocks x_foldingStarts x_folded x_decomposed x_decompositionStarts x_decompositions x_pairs x_composites h0 n0 _ T59.heap _
  rw [e59]
  exact ⟨rfl, N59, K61, c63, c64, c65, c66, c67, c68, c69, c70, c71, F60⟩
theorem d3_0 : decode prog_71_method_6_code 0 = .ok (.aload_n 0, 1) := by decide +kernel
theorem d3_1 : decode prog_71_method_6_code 1 = .ok (.getfield 31, 3) := by decide +kernel
theorem d3_4 : decode prog_71_method_6_code 4 = .ok (.arraylength, 1) := by decide +kernel
theorem d3_5 : decode prog_71_method_6_code 5 = .ok (.newarray .int, 2) := by decide +kernel
theorem tw3 : (Jvm.Cond.arrayClass Jvm.ClassFile.FieldType.int) ∈ tables_1 := List.mem_of_getElem? (i := 3) rfl
theorem d3_7 : decode prog_71_method_6_code 7 = .ok (.astore_n 1, 1) := by decide +kernel
theorem d3_8 : decode prog_71_method_6_code 8 = .ok (.aload_n 0, 1) := by decide +kernel
theorem d3_9 : decode prog_71_method_6_code 9 = .ok (.getfield 31, 3) := by decide +kernel
theorem d3_12 : decode prog_71_method_6_code 12 = .ok (.arraylength, 1) := by decide +kernel
theorem d3_13 : decode prog_71_method_6_code 13 = .ok (.newarray .int, 2) := by decide +kernel
theorem d3_15 : decode prog_71_method_6_code 15 = .ok (.astore_n 2, 1) := by decide +kernel
theorem d3_16 : decode prog_71_method_6_code 16 = .ok (.iconst 0, 1) := by decide +kernel
theorem d3_17 : decode prog_71_method_6_code 17 = .ok (.istore_n 3, 1) := by decide +kernel
theorem d3_18 : decode prog_71_method_6_code 18 = .ok (.iload_n 3, 1) := by decide +kernel
theorem d3_19 : decode prog_71_method_6_code 19 = .ok (.aload_n 0, 1) := by decide +kernel
theorem d3_20 : decode prog_71_method_6_code 20 = .ok (.getfield 31, 3) := by decide +kernel
theorem d3_23 : decode prog_71_method_6_code 23 = .ok (.arraylength, 1) := by decide +kernel
theorem d3_24 : decode prog_71_method_6_code 24 = .ok (.if_icmp .ge 36, 3) := by decide +kernel
theorem d3_60 : decode prog_71_method_6_code 60 = .ok (.bipush 10, 2) := by decide +kernel
theorem d3_62 : decode prog_71_method_6_code 62 = .ok (.anewarray 61, 3) := by decide +kernel
theorem tw37 : (Jvm.Cond.classLink "com/example/docstride/docstride/search/words/CodePointTables" (61 : Nat) "[I") ∈ tables_1 := List.mem_of_getElem? (i := 37) rfl
theorem tw38 : (Jvm.Cond.arrayOver (Jvm.ClassFile.FieldType.array Jvm.ClassFile.FieldType.int)) ∈ tables_1 := List.mem_of_getElem? (i := 38) rfl
theorem d3_65 : decode prog_71_method_6_code 65 = .ok (.dup, 1) := by decide +kernel
theorem d3_66 : decode prog_71_method_6_code 66 = .ok (.iconst 0, 1) := by decide +kernel
theorem d3_67 : decode prog_71_method_6_code 67 = .ok (.aload_n 0, 1) := by decide +kernel
theorem d3_68 : decode prog_71_method_6_code 68 = .ok (.getfield 16, 3) := by decide +kernel
theorem d3_71 : decode prog_71_method_6_code 71 = .ok (.aastore, 1) := by decide +kernel
theorem d3_72 : decode prog_71_method_6_code 72 = .ok (.dup, 1) := by decide +kernel
theorem d3_73 : decode prog_71_method_6_code 73 = .ok (.iconst 1, 1) := by decide +kernel
theorem d3_74 : decode prog_71_method_6_code 74 = .ok (.aload_n 0, 1) := by decide +kernel
theorem d3_75 : decode prog_71_method_6_code 75 = .ok (.getfield 22, 3) := by decide +kernel
theorem d3_78 : decode prog_71_method_6_code 78 = .ok (.aastore, 1) := by decide +kernel
theorem d3_79 : decode prog_71_method_6_code 79 = .ok (.dup, 1) := by decide +kernel
theorem d3_80 : decode prog_71_method_6_code 80 = .ok (.iconst 2, 1) := by decide +kernel
theorem d3_81 : decode prog_71_method_6_code 81 = .ok (.aload_n 0, 1) := by decide +kernel
theorem d3_82 : decode prog_71_method_6_code 82 = .ok (.getfield 25, 3) := by decide +kernel
theorem d3_85 : decode prog_71_method_6_code 85 = .ok (.aastore, 1) := by decide +kernel
theorem d3_86 : decode prog_71_method_6_code 86 = .ok (.dup, 1) := by decide +kernel
theorem d3_87 : decode prog_71_method_6_code 87 = .ok (.iconst 3, 1) := by decide +kernel
theorem d3_88 : decode prog_71_method_6_code 88 = .ok (.aload_n 1, 1) := by decide +kernel
theorem d3_89 : decode prog_71_method_6_code 89 = .ok (.aastore, 1) := by decide +kernel
theorem d3_90 : decode prog_71_method_6_code 90 = .ok (.dup, 1) := by decide +kernel
theorem d3_91 : decode prog_71_method_6_code 91 = .ok (.iconst 4, 1) := by decide +kernel
theorem d3_92 : decode prog_71_method_6_code 92 = .ok (.aload_n 0, 1) := by decide +kernel
theorem d3_93 : decode prog_71_method_6_code 93 = .ok (.getfield 9, 3) := by decide +kernel
theorem d3_96 : decode prog_71_method_6_code 96 = .ok (.aastore, 1) := by decide +kernel
theorem d3_97 : decode prog_71_method_6_code 97 = .ok (.dup, 1) := by decide +kernel
theorem d3_98 : decode prog_71_method_6_code 98 = .ok (.iconst 5, 1) := by decide +kernel
theorem d3_99 : decode prog_71_method_6_code 99 = .ok (.aload_n 0, 1) := by decide +kernel
theorem d3_100 : decode prog_71_method_6_code 100 = .ok (.getfield 13, 3) := by decide +kernel
theorem d3_103 : decode prog_71_method_6_code 103 = .ok (.aastore, 1) := by decide +kernel
theorem d3_104 : decode prog_71_method_6_code 104 = .ok (.dup, 1) := by decide +kernel
theorem d3_105 : decode prog_71_method_6_code 105 = .ok (.bipush 6, 2) := by decide +kernel
theorem d3_107 : decode prog_71_method_6_code 107 = .ok (.aload_n 0, 1) := by decide +kernel
theorem d3_108 : decode prog_71_method_6_code 108 = .ok (.getfield 19, 3) := by decide +kernel
theorem d3_111 : decode prog_71_method_6_code 111 = .ok (.aastore, 1) := by decide +kernel
theorem d3_112 : decode prog_71_method_6_code 112 = .ok (.dup, 1) := by decide +kernel
theorem d3_113 : decode prog_71_method_6_code 113 = .ok (.bipush 7, 2) := by decide +kernel
theorem d3_115 : decode prog_71_method_6_code 115 = .ok (.aload_n 0, 1) := by decide +kernel
theorem d3_116 : decode prog_71_method_6_code 116 = .ok (.getfield 28, 3) := by decide +kernel
theorem d3_119 : decode prog_71_method_6_code 119 = .ok (.aastore, 1) := by decide +kernel
theorem d3_120 : decode prog_71_method_6_code 120 = .ok (.dup, 1) := by decide +kernel
theorem d3_121 : decode prog_71_method_6_code 121 = .ok (.bipush 8, 2) := by decide +kernel
theorem d3_123 : decode prog_71_method_6_code 123 = .ok (.aload_n 2, 1) := by decide +kernel
theorem d3_124 : decode prog_71_method_6_code 124 = .ok (.aastore, 1) := by decide +kernel
theorem d3_125 : decode prog_71_method_6_code 125 = .ok (.dup, 1) := by decide +kernel
theorem d3_126 : decode prog_71_method_6_code 126 = .ok (.bipush 9, 2) := by decide +kernel
theorem d3_128 : decode prog_71_method_6_code 128 = .ok (.aload_n 0, 1) := by decide +kernel
theorem d3_129 : decode prog_71_method_6_code 129 = .ok (.getfield 35, 3) := by decide +kernel
theorem d3_132 : decode prog_71_method_6_code 132 = .ok (.aastore, 1) := by decide +kernel
theorem d3_133 : decode prog_71_method_6_code 133 = .ok (.areturn, 1) := by decide +kernel
theorem ef3_0 (m : MethodId) (x0 : Addr) : entryFrame m #[(.ref x0)] 4 = mkF m 0 #[.val (.ref x0), .unset, .unset, .unset] [] := by first | (simp [entryFrame, mkF, argsToLocals, Value.category]; done) | rfl
def Q3_0 (Z : State) (a0_ : Addr) (x_blockOf : Addr) (x_blocks : Addr) (x_foldingStarts : Addr) (x_folded : Addr) (x_decomposed : Addr) (x_decompositionStarts : Addr) (x_decompositions : Addr) (x_pairs : Addr) (x_composites : Addr) (kp_ : ClassId) (h0 : Heap) (n0 : Nat) (v : Option Value) (h : Heap) (L : List Loc) : Prop := ∃ (b : Addr) (bf : Addr) (bs : Addr) (kf : ClassId) (ks : ClassId) (kr : ClassId), v = some (.ref b) ∧ Fr n0 L ∧ Keep h0 h [] ∧ Arv Z h bf kf .int (0 : Int32) [] (.int 0) ∧ Arv Z h bs ks .int (0 : Int32) [] (.int 0) ∧ Arv Z h b kr (.array .int) (10 : Int32) [(.ref x_foldingStarts), (.ref x_decomposed), (.ref x_decompositionStarts), (.ref bf), (.ref x_blockOf), (.ref x_blocks), (.ref x_folded), (.ref x_decompositions), (.ref bs), (.ref x_composites)] .null
theorem rm3_0 (l : Launch) (Z : State) (a0 : Array Value) (hw : ∀ d ∈ tables_1, d.before a0 Z = true) (ws : List Jvm.Cond) (a0_ : Addr) (x_blockOf : Addr) (x_blocks : Addr) (x_foldingStarts : Addr) (x_folded : Addr) (x_decomposed : Addr) (x_decompositionStarts : Addr) (x_decompositions : Addr) (x_pairs : Addr) (x_composites : Addr) (kp_ : ClassId) (h0 : Heap) (n0 : Nat) (Z0 : n0 ≤ h0.size) (O0 : Old Z n0 h0) (E0 : Exa Z h0 a0_ "com/example/docstride/docstride/search/words/CodePointTables") (F_blockOf : Fld Z h0 a0_ "com/example/docstride/docstride/search/words/CodePointTables" "blockOf" "[I" (.ref x_blockOf)) (F_blocks : Fld Z h0 a0_ "com/example/docstride/docstride/search/words/CodePointTables" "blocks" "[I" (.ref x_blocks)) (F_foldingStarts : Fld Z h0 a0_ "com/example/docstride/docstride/search/words/CodePointTables" "foldingStarts" "[I" (.ref x_foldingStarts)) (F_folded : Fld Z h0 a0_ "com/example/docstride/docstride/search/words/CodePointTables" "folded" "[I" (.ref x_folded)) (F_decomposed : Fld Z h0 a0_ "com/example/docstride/docstride/search/words/CodePointTables" "decomposed" "[I" (.ref x_decomposed)) (F_decompositionStarts : Fld Z h0 a0_ "com/example/docstride/docstride/search/words/CodePointTables" "decompositionStarts" "[I" (.ref x_decompositionStarts)) (F_decompositions : Fld Z h0 a0_ "com/example/docstride/docstride/search/words/CodePointTables" "decompositions" "[I" (.ref x_decompositions)) (F_pairs : Fld Z h0 a0_ "com/example/docstride/docstride/search/words/CodePointTables" "pairs" "[J" (.ref x_pairs)) (F_composites : Fld Z h0 a0_ "com/example/docstride/docstride/search/words/CodePointTables" "composites" "[I" (.ref x_composites)) (E_blockOf : Exa Z h0 x_blockOf "[I") (E_blocks : Exa Z h0 x_blocks "[I") (E_foldingStarts : Exa Z h0 x_foldingStarts "[I") (E_folded : Exa Z h0 x_folded "[I") (E_decomposed : Exa Z h0 x_decomposed "[I") (E_decompositionStarts : Exa Z h0 x_decompositionStarts "[I") (E_decompositions : Exa Z h0 x_decompositions "[I") (E_composites : Exa Z h0 x_composites "[I") (V_p : Arv Z h0 x_pairs kp_ .long (0 : Int32) [] (.long (0 : Int64))) :
    Met l Z ws (⟨"com/example/docstride/docstride/search/words/CodePointTables", "arrays", "()[[I"⟩ : MethodName) prog_71_method_6_code 4 (some (.array (.array .int))) (Rm 0 3 10 0) #[(.ref a0_)] h0 (Q3_0 Z a0_ x_blockOf x_blocks x_foldingStarts x_folded x_decomposed x_decompositionStarts x_decompositions x_pairs x_composites kp_ h0 n0) := by
  refine Met.enter (L0 := #[.val (.ref a0_), .unset, .unset, .unset]) (plainFor_of_name pn30) (fun m => ef3_0 m a0_) ?_
  intro p e s m below meth c s₁ hx hby hml hown hnm hret hlk hZ X0 e0
  have N0 := Fr.nil n0
  have K0 : Keep h0 h0 [] := Keep.refl h0 _
  refine Go.st (t' := s₁.setTop (mkF m 1 #[.val (.ref a0_), .unset, .unset, .unset] [(.ref a0_)])) (fun target kt => ?_) ?_
  · refine XS.aloadN X0.here hx rfl (hb hby d3_0) rfl rfl ?_
    exact kt
  obtain ⟨T10, X10, e10, st10⟩ := getF X0 hx hZ hown (host := "") (Or.inl (hw _ tw27)) Via.refl e0 F_pairs (g := (mkF m 1 #[.val (.ref a0_), .unset, .unset, .unset] [(.ref a0_)])) rfl rfl (hb hby d3_1)
  refine Go.st st10 ?_
  show Go _ _ _ _ _ _ _ (T10.setTop (mkF m 4 _ [(.ref x_pairs)]))
  obtain ⟨cl11, Ar11, -, S11, M11, -, -⟩ := id V_p
  refine Go.st (t' := T10.setTop (mkF m 5 #[.val (.ref a0_), .unset, .unset, .unset] [(.int 0)])) (fun target kt => ?_) ?_
  · refine X10.arraylength hx (by rw [e10]; exact Ar11.1) (State.isArrayOf_alike hZ.alike Ar11.2.1) (g := (mkF m 4 #[.val (.ref a0_), .unset, .unset, .unset] [(.ref x_pairs)])) rfl rfl (hb hby d3_4) _ ?_
    rw [len_of S11 M11]
    exact kt
  obtain ⟨T12, h12, k12, X12, e12, E12, A12, B12, st12⟩ := newPE (aty := .int) X10 hx hZ (hw _ tw3) e10 (g := (mkF m 5 #[.val (.ref a0_), .unset, .unset, .unset] [(.int 0)])) rfl (hb hby d3_5) rfl (by decide) (cap := 0) (by decide) (by decide) (by decide) (by decide) (ad := "[I") (by decide)
  obtain ⟨b12, g12⟩ : ∃ z, z = h0.size := ⟨_, rfl⟩
  rw [← g12] at A12 B12 st12
  have lb13 : h0.size ≤ b12 := Nat.le_of_eq g12.symm
  have sz14 : h0.size ≤ b12 := Nat.le_trans K0.1 lb13
  have g15 : n0 ≤ b12 := Nat.le_trans Z0 sz14
  have K16 := K0.ext E12
  have O17 := O0.ext E12
  have V18 : Arv Z h12 b12 k12 .int (0 : Int32) [] (.int 0) := (Arv.new A12 (by decide)).pad (pad_rep [] (.int 0) 0)
  refine Go.st st12 ?_
  show Go _ _ _ _ _ _ _ (T12.setTop (mkF m 7 _ [(.ref b12)]))
  refine Go.st (t' := T12.setTop (mkF m 9 #[.val (.ref a0_), .val (.ref b12), .unset, .unset] [(.ref a0_)])) (fun target kt => ?_) ?_
  · refine XS.astoreN X12.here hx rfl (hb hby d3_7) rfl rfl (l' := #[.val (.ref a0_), .val (.ref b12), .unset, .unset]) rfl ?_
    show Steps p.tables e below (T12.setTop (mkF m 8 _ [])) target
    refine XS.aloadN X12.here hx rfl (hb hby d3_8) rfl rfl ?_
    exact kt
  have c19 := F_pairs.ext E12
  obtain ⟨T20, X20, e20, st20⟩ := getF X12 hx hZ hown (host := "") (Or.inl (hw _ tw27)) Via.refl e12 c19 (g := (mkF m 9 #[.val (.ref a0_), .val (.ref b12), .unset, .unset] [(.ref a0_)])) rfl rfl (hb hby d3_9)
  refine Go.st st20 ?_
  show Go _ _ _ _ _ _ _ (T20.setTop (mkF m 12 _ [(.ref x_pairs)]))
  have c22 := V_p.ext E12
  obtain ⟨cl21, Ar21, -, S21, M21, -, -⟩ := id c22
  refine Go.st (t' := T20.setTop (mkF m 13 #[.val (.ref a0_), .val (.ref b12), .unset, .unset] [(.int 0)])) (fun target kt => ?_) ?_
  · refine X20.arraylength hx (by rw [e20]; exact Ar21.1) (State.isArrayOf_alike hZ.alike Ar21.2.1) (g := (mkF m 12 #[.val (.ref a0_), .val (.ref b12), .unset, .unset] [(.ref x_pairs)])) rfl rfl (hb hby d3_12) _ ?_
    rw [len_of S21 M21]
    exact kt
  obtain ⟨T23, h23, k23, X23, e23, E23, A23, B23, st23⟩ := newPE (aty := .int) X20 hx hZ (hw _ tw3) e20 (g := (mkF m 13 #[.val (.ref a0_), .val (.ref b12), .unset, .unset] [(.int 0)])) rfl (hb hby d3_13) rfl (by decide) (cap := 0) (by decide) (by decide) (by decide) (by decide) (ad := "[I") (by decide)
  obtain ⟨b23, g23⟩ : ∃ z, z = h12.size := ⟨_, rfl⟩
  rw [← g23] at A23 B23 st23
  have lb24 : h12.size ≤ b23 := Nat.le_of_eq g23.symm
  have sz25 : h0.size ≤ b23 := Nat.le_trans K16.1 lb24
  have g26 : n0 ≤ b23 := Nat.le_trans Z0 sz25
  have K27 := K16.ext E23
  have O28 := O17.ext E23
  have V29 : Arv Z h23 b23 k23 .int (0 : Int32) [] (.int 0) := (Arv.new A23 (by decide)).pad (pad_rep [] (.int 0) 0)
  refine Go.st st23 ?_
  show Go _ _ _ _ _ _ _ (T23.setTop (mkF m 15 _ [(.ref b23)]))
  refine Go.st (t' := T23.setTop (mkF m 20 #[.val (.ref a0_), .val (.ref b12), .val (.ref b23), .val (.int 0)] [(.ref a0_), (.int 0)])) (fun target kt => ?_) ?_
  · refine XS.astoreN X23.here hx rfl (hb hby d3_15) rfl rfl (l' := #[.val (.ref a0_), .val (.ref b12), .val (.ref b23), .unset]) rfl ?_
    show Steps p.tables e below (T23.setTop (mkF m 16 _ [])) target
    refine XS.iconst X23.here hx rfl (hb hby d3_16) ?_
    show Steps p.tables e below (T23.setTop (mkF m 17 _ [(.int 0)])) target
    refine XS.istoreN X23.here hx rfl (hb hby d3_17) rfl (l' := #[.val (.ref a0_), .val (.ref b12), .val (.ref b23), .val (.int 0)]) rfl ?_
    show Steps p.tables e below (T23.setTop (mkF m 18 _ [])) target
    refine XS.iloadN X23.here hx rfl (hb hby d3_18) rfl ?_
    show Steps p.tables e below (T23.setTop (mkF m 19 _ [(.int 0)])) target
    refine XS.aloadN X23.here hx rfl (hb hby d3_19) rfl rfl ?_
    exact kt
  have c30 := c19.ext E23
  obtain ⟨T31, X31, e31, st31⟩ := getF X23 hx hZ hown (host := "") (Or.inl (hw _ tw27)) Via.refl e23 c30 (g := (mkF m 20 #[.val (.ref a0_), .val (.ref b12), .val (.ref b23), .val (.int 0)] [(.ref a0_), (.int 0)])) rfl rfl (hb hby d3_20)
  refine Go.st st31 ?_
  show Go _ _ _ _ _ _ _ (T31.setTop (mkF m 23 _ [(.ref x_pairs), (.int 0)]))
  have c33 := c22.ext E23
  obtain ⟨cl32, Ar32, -, S32, M32, -, -⟩ := id c33
  refine Go.st (t' := T31.setTop (mkF m 62 #[.val (.ref a0_), .val (.ref b12), .val (.ref b23), .val (.int 0)] [(.int 10)])) (fun target kt => ?_) ?_
  · refine X31.arraylength hx (by rw [e31]; exact Ar32.1) (State.isArrayOf_alike hZ.alike Ar32.2.1) (g := (mkF m 23 #[.val (.ref a0_), .val (.ref b12), .val (.ref b23), .val (.int 0)] [(.ref x_pairs), (.int 0)])) rfl rfl (hb hby d3_23) _ ?_
    rw [len_of S32 M32]
    show Steps p.tables e below (T31.setTop (mkF m 24 _ [(.int 0), (.int 0)])) target
    refine XS.icmpYes X31.here hx rfl (pc0 := 24) (pc' := 60) rfl (hb hby d3_24) rfl (flt (by decide : ¬ ((0 : Int32) < (0 : Int32)))).2.1 (by decide) (by decide) ?_
    show Steps p.tables e below (T31.setTop (mkF m 60 _ [])) target
    refine XS.bipush X31.here hx rfl (hb hby d3_60) ?_
    exact kt
  obtain ⟨T34, h34, k34, X34, e34, E34, A34, B34, O'34, st34⟩ := newRA X31 hx hZ hown (by decide) (hw _ tw37) (hw _ tw38) e31 (g := (mkF m 62 #[.val (.ref a0_), .val (.ref b12), .val (.ref b23), .val (.int 0)] [(.int 10)])) rfl (hb hby d3_62) rfl (by decide) (cap := 10) (by decide) (by decide) (by decide) (by decide) (ad := "[[I") (by decide)
  obtain ⟨b34, g34⟩ : ∃ z, z = h23.size := ⟨_, rfl⟩
  rw [← g34] at A34 B34 st34
  have lb35 : h23.size ≤ b34 := Nat.le_of_eq g34.symm
  have sz36 : h0.size ≤ b34 := Nat.le_trans K27.1 lb35
  have g37 : n0 ≤ b34 := Nat.le_trans Z0 sz36
  have K38 := K27.ext E34
  have O39 := O28.ext E34
  have V40 : Arv Z h34 b34 k34 (.array .int) (10 : Int32) [.null, .null, .null, .null, .null, .null, .null, .null, .null, .null] .null := (Arv.new A34 (by decide)).pad (pad_rep [] .null 10)
  refine Go.st st34 ?_
  show Go _ _ _ _ _ _ _ (T34.setTop (mkF m 65 _ [(.ref b34)]))
  refine Go.st (t' := T34.setTop (mkF m 68 #[.val (.ref a0_), .val (.ref b12), .val (.ref b23), .val (.int 0)] [(.ref a0_), (.int 0), (.ref b34), (.ref b34)])) (fun target kt => ?_) ?_
  · refine XS.dup X34.here hx rfl (hb hby d3_65) rfl rfl ?_
    show Steps p.tables e below (T34.setTop (mkF m 66 _ [(.ref b34), (.ref b34)])) target
    refine XS.iconst X34.here hx rfl (hb hby d3_66) ?_
    show Steps p.tables e below (T34.setTop (mkF m 67 _ [(.int 0), (.ref b34), (.ref b34)])) target
    refine XS.aloadN X34.here hx rfl (hb hby d3_67) rfl rfl ?_
    exact kt
  have c41 := ((F_foldingStarts.ext E12).ext E23).ext E34
  obtain ⟨T42, X42, e42, st42⟩ := getF X34 hx hZ hown (host := "") (Or.inl (hw _ tw17)) Via.refl e34 c41 (g := (mkF m 68 #[.val (.ref a0_), .val (.ref b12), .val (.ref b23), .val (.int 0)] [(.ref a0_), (.int 0), (.ref b34), (.ref b34)])) rfl rfl (hb hby d3_68)
  refine Go.st st42 ?_
  show Go _ _ _ _ _ _ _ (T42.setTop (mkF m 71 _ [(.ref x_foldingStarts), (.int 0), (.ref b34), (.ref b34)]))
  obtain ⟨cl43, Ar43, q43, S43, M43, H43, G43⟩ := id V40
  have hin43 : ¬ ((0 : Int32) < 0 ∨ cl43.slots.size ≤ ((0 : Int32)).toNatClampNeg) := inb_of S43 ⟨by decide, by decide⟩
  have c44 := ((E_foldingStarts.ext E12).ext E23).ext E34
  obtain ⟨T43, h43, X43, e43, W43, st43⟩ := stR X42 hx hZ e42 Ar43 (j := (0 : Int32)) hin43 rfl (Sto.ofVA Ar43 q43 O'34 (Ins.self c44)) (g := (mkF m 71 #[.val (.ref a0_), .val (.ref b12), .val (.ref b23), .val (.int 0)] [(.ref x_foldingStarts), (.int 0), (.ref b34), (.ref b34)])) rfl rfl (hb hby d3_71)
  have V45 : Arv Z h43 b34 k34 (.array .int) (10 : Int32) [(.ref x_foldingStarts), .null, .null, .null, .null, .null, .null, .null, .null, .null] .null := Arv.set Ar43 q43 S43 M43 H43 G43 rfl W43 0 rfl (Nat.le_of_ble_eq_true rfl)
  have K46 := K38.wr W43 (Or.inr sz36)
  have O47 := O39.wr W43 g37
  have N43 := Fr.snoc X43 N0 g37
  refine Go.st st43 ?_
  show Go _ _ _ _ _ _ _ (T43.setTop (mkF m 72 _ [(.ref b34)]))
  refine Go.st (t' := T43.setTop (mkF m 75 #[.val (.ref a0_), .val (.ref b12), .val (.ref b23), .val (.int 0)] [(.ref a0_), (.int 1), (.ref b34), (.ref b34)])) (fun target kt => ?_) ?_
  · refine XS.dup X43.here hx rfl (hb hby d3_72) rfl rfl ?_
    show Steps p.tables e below (T43.setTop (mkF m 73 _ [(.ref b34), (.ref b34)])) target
    refine XS.iconst X43.here hx rfl (hb hby d3_73) ?_
    show Steps p.tables e below (T43.setTop (mkF m 74 _ [(.int 1), (.ref b34), (.ref b34)])) target
    refine XS.aloadN X43.here hx rfl (hb hby d3_74) rfl rfl ?_
    exact kt
  have o48 : a0_ < b12 := Nat.lt_of_lt_of_le E0.lt lb13
  have o49 : b12 < b23 := Nat.lt_of_lt_of_le V18.lt lb24
  have o50 : a0_ < b23 := Nat.lt_trans o48 o49
  have o51 : b23 < b34 := Nat.lt_of_lt_of_le V29.lt lb35
  have o52 : a0_ < b34 := Nat.lt_trans o50 o51
  have ne53 : a0_ ≠ b34 := Nat.ne_of_lt o52
  have c54 := (((F_decomposed.ext E12).ext E23).ext E34).other W43 (Or.inl ne53)
  obtain ⟨T55, X55, e55, st55⟩ := getF X43 hx hZ hown (host := "") (Or.inl (hw _ tw21)) Via.refl e43 c54 (g := (mkF m 75 #[.val (.ref a0_), .val (.ref b12), .val (.ref b23), .val (.int 0)] [(.ref a0_), (.int 1), (.ref b34), (.ref b34)])) rfl rfl (hb hby d3_75)
  refine Go.st st55 ?_
  show Go _ _ _ _ _ _ _ (T55.setTop (mkF m 78 _ [(.ref x_decomposed), (.int 1), (.ref b34), (.ref b34)]))
  obtain ⟨cl56, Ar56, q56, S56, M56, H56, G56⟩ := id V45
  have hin56 : ¬ ((1 : Int32) < 0 ∨ cl56.slots.size ≤ ((1 : Int32)).toNatClampNeg) := inb_of S56 ⟨by decide, by decide⟩
  have c57 := (((E_decomposed.ext E12).ext E23).ext E34).wr W43
  obtain ⟨T56, h56, X56, e56, W56, st56⟩ := stR X55 hx hZ e55 Ar56 (j := (1 : Int32)) hin56 rfl (Sto.ofVA Ar56 q56 O'34 (Ins.self c57)) (g := (mkF m 78 #[.val (.ref a0_), .val (.ref b12), .val (.ref b23), .val (.int 0)] [(.ref x_decomposed), (.int 1), (.ref b34), (.ref b34)])) rfl rfl (hb hby d3_78)
  have V58 : Arv Z h56 b34 k34 (.array .int) (10 : Int32) [(.ref x_foldingStarts), (.ref x_decomposed), .null, .null, .null, .null, .null, .null, .null, .null] .null := Arv.set Ar56 q56 S56 M56 H56 G56 rfl W56 1 rfl (Nat.le_of_ble_eq_true rfl)
  have K59 := K46.wr W56 (Or.inr sz36)
  have O60 := O47.wr W56 g37
  have N56 := Fr.snoc X56 N43 g37
  refine Go.st st56 ?_
  show Go _ _ _ _ _ _ _ (T56.setTop (mkF m 79 _ [(.ref b34)]))
  refine Go.st (t' := T56.setTop (mkF m 82 #[.val (.ref a0_), .val (.ref b12), .val (.ref b23), .val (.int 0)] [(.ref a0_), (.int 2), (.ref b34), (.ref b34)])) (fun target kt => ?_) ?_
  · refine XS.dup X56.here hx rfl (hb hby d3_79) rfl rfl ?_
    show Steps p.tables e below (T56.setTop (mkF m 80 _ [(.ref b34), (.ref b34)])) target
    refine XS.iconst X56.here hx rfl (hb hby d3_80) ?_
    show Steps p.tables e below (T56.setTop (mkF m 81 _ [(.int 2), (.ref b34), (.ref b34)])) target
    refine XS.aloadN X56.here hx rfl (hb hby d3_81) rfl rfl ?_
    exact kt
  have c61 := ((((F_decompositionStarts.ext E12).ext E23).ext E34).other W43 (Or.inl ne53)).other W56 (Or.inl ne53)
  obtain ⟨T62, X62, e62, st62⟩ := getF X56 hx hZ hown (host := "") (Or.inl (hw _ tw23)) Via.refl e56 c61 (g := (mkF m 82 #[.val (.ref a0_), .val (.ref b12), .val (.ref b23), .val (.int 0)] [(.ref a0_), (.int 2), (.ref b34), (.ref b34)])) rfl rfl (hb hby d3_82)
  refine Go.st st62 ?_
  show Go _ _ _ _ _ _ _ (T62.setTop (mkF m 85 _ [(.ref x_decompositionStarts), (.int 2), (.ref b34), (.ref b34)]))
  obtain ⟨cl63, Ar63, q63, S63, M63, H63, G63⟩ := id V58
  have hin63 : ¬ ((2 : Int32) < 0 ∨ cl63.slots.size ≤ ((2 : Int32)).toNatClampNeg) := inb_of S63 ⟨by decide, by decide⟩
  have c64 := ((((E_decompositionStarts.ext E12).ext E23).ext E34).wr W43).wr W56
  obtain ⟨T63, h63, X63, e63, W63, st63⟩ := stR X62 hx hZ e62 Ar63 (j := (2 : Int32)) hin63 rfl (Sto.ofVA Ar63 q63 O'34 (Ins.self c64)) (g := (mkF m 85 #[.val (.ref a0_), .val (.ref b12), .val (.ref b23), .val (.int 0)] [(.ref x_decompositionStarts), (.int 2), (.ref b34), (.ref b34)])) rfl rfl (hb hby d3_85)
  have V65 : Arv Z h63 b34 k34 (.array .int) (10 : Int32) [(.ref x_foldingStarts), (.ref x_decomposed), (.ref x_decompositionStarts), .null, .null, .null, .null, .null, .null, .null] .null := Arv.set Ar63 q63 S63 M63 H63 G63 rfl W63 2 rfl (Nat.le_of_ble_eq_true rfl)
  have K66 := K59.wr W63 (Or.inr sz36)
  have O67 := O60.wr W63 g37
  have N63 := Fr.snoc X63 N56 g37
  refine Go.st st63 ?_
  show Go _ _ _ _ _ _ _ (T63.setTop (mkF m 86 _ [(.ref b34)]))
  refine Go.st (t' := T63.setTop (mkF m 89 #[.val (.ref a0_), .val (.ref b12), .val (.ref b23), .val (.int 0)] [(.ref b12), (.int 3), (.ref b34), (.ref b34)])) (fun target kt => ?_) ?_
  · refine XS.dup X63.here hx rfl (hb hby d3_86) rfl rfl ?_
    show Steps p.tables e below (T63.setTop (mkF m 87 _ [(.ref b34), (.ref b34)])) target
    refine XS.iconst X63.here hx rfl (hb hby d3_87) ?_
    show Steps p.tables e below (T63.setTop (mkF m 88 _ [(.int 3), (.ref b34), (.ref b34)])) target
    refine XS.aloadN X63.here hx rfl (hb hby d3_88) rfl rfl ?_
    exact kt
  obtain ⟨cl68, Ar68, q68, S68, M68, H68, G68⟩ := id V65
  have hin68 : ¬ ((3 : Int32) < 0 ∨ cl68.slots.size ≤ ((3 : Int32)).toNatClampNeg) := inb_of S68 ⟨by decide, by decide⟩
  have c69 := ((((B12.ext E23).ext E34).wr W43).wr W56).wr W63
  obtain ⟨T68, h68, X68, e68, W68, st68⟩ := stR X63 hx hZ e63 Ar68 (j := (3 : Int32)) hin68 rfl (Sto.ofVA Ar68 q68 O'34 (Ins.self c69)) (g := (mkF m 89 #[.val (.ref a0_), .val (.ref b12), .val (.ref b23), .val (.int 0)] [(.ref b12), (.int 3), (.ref b34), (.ref b34)])) rfl rfl (hb hby d3_89)
  have V70 : Arv Z h68 b34 k34 (.array .int) (10 : Int32) [(.ref x_foldingStarts), (.ref x_decomposed), (.ref x_decompositionStarts), (.ref b12), .null, .null, .null, .null, .null, .null] .null := Arv.set Ar68 q68 S68 M68 H68 G68 rfl W68 3 rfl (Nat.le_of_ble_eq_true rfl)
  have K71 := K66.wr W68 (Or.inr sz36)
  have O72 := O67.wr W68 g37
  have N68 := Fr.snoc X68 N63 g37
  refine Go.st st68 ?_
  show Go _ _ _ _ _ _ _ (T68.setTop (mkF m 90 _ [(.ref b34)]))
  refine Go.st (t' := T68.setTop (mkF m 93 #[.val (.ref a0_), .val (.ref b12), .val (.ref b23), .val (.int 0)] [(.ref a0_), (.int 4), (.ref b34), (.ref b34)])) (fun target kt => ?_) ?_
  · refine XS.dup X68.here hx rfl (hb hby d3_90) rfl rfl ?_
    show Steps p.tables e below (T68.setTop (mkF m 91 _ [(.ref b34), (.ref b34)])) target
    refine XS.iconst X68.here hx rfl (hb hby d3_91) ?_
    show Steps p.tables e below (T68.setTop (mkF m 92 _ [(.int 4), (.ref b34), (.ref b34)])) target
    refine XS.aloadN X68.here hx rfl (hb hby d3_92) rfl rfl ?_
    exact kt
  have c73 := ((((((F_blockOf.ext E12).ext E23).ext E34).other W43 (Or.inl ne53)).other W56 (Or.inl ne53)).other W63 (Or.inl ne53)).other W68 (Or.inl ne53)
  obtain ⟨T74, X74, e74, st74⟩ := getF X68 hx hZ hown (host := "") (Or.inl (hw _ tw13)) Via.refl e68 c73 (g := (mkF m 93 #[.val (.ref a0_), .val (.ref b12), .val (.ref b23), .val (.int 0)] [(.ref a0_), (.int 4), (.ref b34), (.ref b34)])) rfl rfl (hb hby d3_93)
  refine Go.st st74 ?_
  show Go _ _ _ _ _ _ _ (T74.setTop (mkF m 96 _ [(.ref x_blockOf), (.int 4), (.ref b34), (.ref b34)]))
  obtain ⟨cl75, Ar75, q75, S75, M75, H75, G75⟩ := id V70
  have hin75 : ¬ ((4 : Int32) < 0 ∨ cl75.slots.size ≤ ((4 : Int32)).toNatClampNeg) := inb_of S75 ⟨by decide, by decide⟩
  have c76 := ((((((E_blockOf.ext E12).ext E23).ext E34).wr W43).wr W56).wr W63).wr W68
  obtain ⟨T75, h75, X75, e75, W75, st75⟩ := stR X74 hx hZ e74 Ar75 (j := (4 : Int32)) hin75 rfl (Sto.ofVA Ar75 q75 O'34 (Ins.self c76)) (g := (mkF m 96 #[.val (.ref a0_), .val (.ref b12), .val (.ref b23), .val (.int 0)] [(.ref x_blockOf), (.int 4), (.ref b34), (.ref b34)])) rfl rfl (hb hby d3_96)
  have V77 : Arv Z h75 b34 k34 (.array .int) (10 : Int32) [(.ref x_foldingStarts), (.ref x_decomposed), (.ref x_decompositionStarts), (.ref b12), (.ref x_blockOf), .null, .null, .null, .null, .null] .null := Arv.set Ar75 q75 S75 M75 H75 G75 rfl W75 4 rfl (Nat.le_of_ble_eq_true rfl)
  have K78 := K71.wr W75 (Or.inr sz36)
  have O79 := O72.wr W75 g37
  have N75 := Fr.snoc X75 N68 g37
  refine Go.st st75 ?_
  show Go _ _ _ _ _ _ _ (T75.setTop (mkF m 97 _ [(.ref b34)]))
  refine Go.st (t' := T75.setTop (mkF m 100 #[.val (.ref a0_), .val (.ref b12), .val (.ref b23), .val (.int 0)] [(.ref a0_), (.int 5), (.ref b34), (.ref b34)])) (fun target kt => ?_) ?_
  · refine XS.dup X75.here hx rfl (hb hby d3_97) rfl rfl ?_
    show Steps p.tables e below (T75.setTop (mkF m 98 _ [(.ref b34), (.ref b34)])) target
    refine XS.iconst X75.here hx rfl (hb hby d3_98) ?_
    show Steps p.tables e below (T75.setTop (mkF m 99 _ [(.int 5), (.ref b34), (.ref b34)])) target
    refine XS.aloadN X75.here hx rfl (hb hby d3_99) rfl rfl ?_
    exact kt
  have c80 := (((((((F_blocks.ext E12).ext E23).ext E34).other W43 (Or.inl ne53)).other W56 (Or.inl ne53)).other W63 (Or.inl ne53)).other W68 (Or.inl ne53)).other W75 (Or.inl ne53)
  obtain ⟨T81, X81, e81, st81⟩ := getF X75 hx hZ hown (host := "") (Or.inl (hw _ tw15)) Via.refl e75 c80 (g := (mkF m 100 #[.val (.ref a0_), .val (.ref b12), .val (.ref b23), .val (.int 0)] [(.ref a0_), (.int 5), (.ref b34), (.ref b34)])) rfl rfl (hb hby d3_100)
  refine Go.st st81 ?_
  show Go _ _ _ _ _ _ _ (T81.setTop (mkF m 103 _ [(.ref x_blocks), (.int 5), (.ref b34), (.ref b34)]))
  obtain ⟨cl82, Ar82, q82, S82, M82, H82, G82⟩ := id V77
  have hin82 : ¬ ((5 : Int32) < 0 ∨ cl82.slots.size ≤ ((5 : Int32)).toNatClampNeg) := inb_of S82 ⟨by decide, by decide⟩
  have c83 := (((((((E_blocks.ext E12).ext E23).ext E34).wr W43).wr W56).wr W63).wr W68).wr W75
  obtain ⟨T82, h82, X82, e82, W82, st82⟩ := stR X81 hx hZ e81 Ar82 (j := (5 : Int32)) hin82 rfl (Sto.ofVA Ar82 q82 O'34 (Ins.self c83)) (g := (mkF m 103 #[.val (.ref a0_), .val (.ref b12), .val (.ref b23), .val (.int 0)] [(.ref x_blocks), (.int 5), (.ref b34), (.ref b34)])) rfl rfl (hb hby d3_103)
  have V84 : Arv Z h82 b34 k34 (.array .int) (10 : Int32) [(.ref x_foldingStarts), (.ref x_decomposed), (.ref x_decompositionStarts), (.ref b12), (.ref x_blockOf), (.ref x_blocks), .null, .null, .null, .null] .null := Arv.set Ar82 q82 S82 M82 H82 G82 rfl W82 5 rfl (Nat.le_of_ble_eq_true rfl)
  have K85 := K78.wr W82 (Or.inr sz36)
  have O86 := O79.wr W82 g37
  have N82 := Fr.snoc X82 N75 g37
  refine Go.st st82 ?_
  show Go _ _ _ _ _ _ _ (T82.setTop (mkF m 104 _ [(.ref b34)]))
  refine Go.st (t' := T82.setTop (mkF m 108 #[.val (.ref a0_), .val (.ref b12), .val (.ref b23), .val (.int 0)] [(.ref a0_), (.int 6), (.ref b34), (.ref b34)])) (fun target kt => ?_) ?_
  · refine XS.dup X82.here hx rfl (hb hby d3_104) rfl rfl ?_
    show Steps p.tables e below (T82.setTop (mkF m 105 _ [(.ref b34), (.ref b34)])) target
    refine XS.bipush X82.here hx rfl (hb hby d3_105) ?_
    show Steps p.tables e below (T82.setTop (mkF m 107 _ [(.int 6), (.ref b34), (.ref b34)])) target
    refine XS.aloadN X82.here hx rfl (hb hby d3_107) rfl rfl ?_
    exact kt
  have c87 := ((((((((F_folded.ext E12).ext E23).ext E34).other W43 (Or.inl ne53)).other W56 (Or.inl ne53)).other W63 (Or.inl ne53)).other W68 (Or.inl ne53)).other W75 (Or.inl ne53)).other W82 (Or.inl ne53)
  obtain ⟨T88, X88, e88, st88⟩ := getF X82 hx hZ hown (host := "") (Or.inl (hw _ tw19)) Via.refl e82 c87 (g := (mkF m 108 #[.val (.ref a0_), .val (.ref b12), .val (.ref b23), .val (.int 0)] [(.ref a0_), (.int 6), (.ref b34), (.ref b34)])) rfl rfl (hb hby d3_108)
  refine Go.st st88 ?_
  show Go _ _ _ _ _ _ _ (T88.setTop (mkF m 111 _ [(.ref x_folded), (.int 6), (.ref b34), (.ref b34)]))
  obtain ⟨cl89, Ar89, q89, S89, M89, H89, G89⟩ := id V84
  have hin89 : ¬ ((6 : Int32) < 0 ∨ cl89.slots.size ≤ ((6 : Int32)).toNatClampNeg) := inb_of S89 ⟨by decide, by decide⟩
  have c90 := ((((((((E_folded.ext E12).ext E23).ext E34).wr W43).wr W56).wr W63).wr W68).wr W75).wr W82
  obtain ⟨T89, h89, X89, e89, W89, st89⟩ := stR X88 hx hZ e88 Ar89 (j := (6 : Int32)) hin89 rfl (Sto.ofVA Ar89 q89 O'34 (Ins.self c90)) (g := (mkF m 111 #[.val (.ref a0_), .val (.ref b12), .val (.ref b23), .val (.int 0)] [(.ref x_folded), (.int 6), (.ref b34), (.ref b34)])) rfl rfl (hb hby d3_111)
  have V91 : Arv Z h89 b34 k34 (.array .int) (10 : Int32) [(.ref x_foldingStarts), (.ref x_decomposed), (.ref x_decompositionStarts), (.ref b12), (.ref x_blockOf), (.ref x_blocks), (.ref x_folded), .null, .null, .null] .null := Arv.set Ar89 q89 S89 M89 H89 G89 rfl W89 6 rfl (Nat.le_of_ble_eq_true rfl)
  have K92 := K85.wr W89 (Or.inr sz36)
  have O93 := O86.wr W89 g37
  have N89 := Fr.snoc X89 N82 g37
  refine Go.st st89 ?_
  show Go _ _ _ _ _ _ _ (T89.setTop (mkF m 112 _ [(.ref b34)]))
  refine Go.st (t' := T89.setTop (mkF m 116 #[.val (.ref a0_), .val (.ref b12), .val (.ref b23), .val (.int 0)] [(.ref a0_), (.int 7), (.ref b34), (.ref b34)])) (fun target kt => ?_) ?_
  · refine XS.dup X89.here hx rfl (hb hby d3_112) rfl rfl ?_
    show Steps p.tables e below (T89.setTop (mkF m 113 _ [(.ref b34), (.ref b34)])) target
    refine XS.bipush X89.here hx rfl (hb hby d3_113) ?_
    show Steps p.tables e below (T89.setTop (mkF m 115 _ [(.int 7), (.ref b34), (.ref b34)])) target
    refine XS.aloadN X89.here hx rfl (hb hby d3_115) rfl rfl ?_
    exact kt
  have c94 := (((((((((F_decompositions.ext E12).ext E23).ext E34).other W43 (Or.inl ne53)).other W56 (Or.inl ne53)).other W63 (Or.inl ne53)).other W68 (Or.inl ne53)).other W75 (Or.inl ne53)).other W82 (Or.inl ne53)).other W89 (Or.inl ne53)
  obtain ⟨T95, X95, e95, st95⟩ := getF X89 hx hZ hown (host := "") (Or.inl (hw _ tw25)) Via.refl e89 c94 (g := (mkF m 116 #[.val (.ref a0_), .val (.ref b12), .val (.ref b23), .val (.int 0)] [(.ref a0_), (.int 7), (.ref b34), (.ref b34)])) rfl rfl (hb hby d3_116)
  refine Go.st st95 ?_
  show Go _ _ _ _ _ _ _ (T95.setTop (mkF m 119 _ [(.ref x_decompositions), (.int 7), (.ref b34), (.ref b34)]))
  obtain ⟨cl96, Ar96, q96, S96, M96, H96, G96⟩ := id V91
  have hin96 : ¬ ((7 : Int32) < 0 ∨ cl96.slots.size ≤ ((7 : Int32)).toNatClampNeg) := inb_of S96 ⟨by decide, by decide⟩
  have c97 := (((((((((E_decompositions.ext E12).ext E23).ext E34).wr W43).wr W56).wr W63).wr W68).wr W75).wr W82).wr W89
  obtain ⟨T96, h96, X96, e96, W96, st96⟩ := stR X95 hx hZ e95 Ar96 (j := (7 : Int32)) hin96 rfl (Sto.ofVA Ar96 q96 O'34 (Ins.self c97)) (g := (mkF m 119 #[.val (.ref a0_), .val (.ref b12), .val (.ref b23), .val (.int 0)] [(.ref x_decompositions), (.int 7), (.ref b34), (.ref b34)])) rfl rfl (hb hby d3_119)
  have V98 : Arv Z h96 b34 k34 (.array .int) (10 : Int32) [(.ref x_foldingStarts), (.ref x_decomposed), (.ref x_decompositionStarts), (.ref b12), (.ref x_blockOf), (.ref x_blocks), (.ref x_folded), (.ref x_decompositions), .null, .null] .null := Arv.set Ar96 q96 S96 M96 H96 G96 rfl W96 7 rfl (Nat.le_of_ble_eq_true rfl)
  have K99 := K92.wr W96 (Or.inr sz36)
  have O100 := O93.wr W96 g37
  have N96 := Fr.snoc X96 N89 g37
  refine Go.st st96 ?_
  show Go _ _ _ _ _ _ _ (T96.setTop (mkF m 120 _ [(.ref b34)]))
  refine Go.st (t' := T96.setTop (mkF m 124 #[.val (.ref a0_), .val (.ref b12), .val (.ref b23), .val (.int 0)] [(.ref b23), (.int 8), (.ref b34), (.ref b34)])) (fun target kt => ?_) ?_
  · refine XS.dup X96.here hx rfl (hb hby d3_120) rfl rfl ?_
    show Steps p.tables e below (T96.setTop (mkF m 121 _ [(.ref b34), (.ref b34)])) target
    refine XS.bipush X96.here hx rfl (hb hby d3_121) ?_
    show Steps p.tables e below (T96.setTop (mkF m 123 _ [(.int 8), (.ref b34), (.ref b34)])) target
    refine XS.aloadN X96.here hx rfl (hb hby d3_123) rfl rfl ?_
    exact kt
  obtain ⟨cl101, Ar101, q101, S101, M101, H101, G101⟩ := id V98
  have hin101 : ¬ ((8 : Int32) < 0 ∨ cl101.slots.size ≤ ((8 : Int32)).toNatClampNeg) := inb_of S101 ⟨by decide, by decide⟩
  have c102 := ((((((((B23.ext E34).wr W43).wr W56).wr W63).wr W68).wr W75).wr W82).wr W89).wr W96
  obtain ⟨T101, h101, X101, e101, W101, st101⟩ := stR X96 hx hZ e96 Ar101 (j := (8 : Int32)) hin101 rfl (Sto.ofVA Ar101 q101 O'34 (Ins.self c102)) (g := (mkF m 124 #[.val (.ref a0_), .val (.ref b12), .val (.ref b23), .val (.int 0)] [(.ref b23), (.int 8), (.ref b34), (.ref b34)])) rfl rfl (hb hby d3_124)
  have V103 : Arv Z h101 b34 k34 (.array .int) (10 : Int32) [(.ref x_foldingStarts), (.ref x_decomposed), (.ref x_decompositionStarts), (.ref b12), (.ref x_blockOf), (.ref x_blocks), (.ref x_folded), (.ref x_decompositions), (.ref b23), .null] .null := Arv.set Ar101 q101 S101 M101 H101 G101 rfl W101 8 rfl (Nat.le_of_ble_eq_true rfl)
  have K104 := K99.wr W101 (Or.inr sz36)
  have O105 := O100.wr W101 g37
  have N101 := Fr.snoc X101 N96 g37
  refine Go.st st101 ?_
  show Go _ _ _ _ _ _ _ (T101.setTop (mkF m 125 _ [(.ref b34)]))
  refine Go.st (t' := T101.setTop (mkF m 129 #[.val (.ref a0_), .val (.ref b12), .val (.ref b23), .val (.int 0)] [(.ref a0_), (.int 9), (.ref b34), (.ref b34)])) (fun target kt => ?_) ?_
  · refine XS.dup X101.here hx rfl (hb hby d3_125) rfl rfl ?_
    show Steps p.tables e below (T101.setTop (mkF m 126 _ [(.ref b34), (.ref b34)])) target
    refine XS.bipush X101.here hx rfl (hb hby d3_126) ?_
    show Steps p.tables e below (T101.setTop (mkF m 128 _ [(.int 9), (.ref b34), (.ref b34)])) target
    refine XS.aloadN X101.here hx rfl (hb hby d3_128) rfl rfl ?_
    exact kt
  have c106 := (((((((((((F_composites.ext E12).ext E23).ext E34).other W43 (Or.inl ne53)).other W56 (Or.inl ne53)).other W63 (Or.inl ne53)).other W68 (Or.inl ne53)).other W75 (Or.inl ne53)).other W82 (Or.inl ne53)).other W89 (Or.inl ne53)).other W96 (Or.inl ne53)).other W101 (Or.inl ne53)
  obtain ⟨T107, X107, e107, st107⟩ := getF X101 hx hZ hown (host := "") (Or.inl (hw _ tw29)) Via.refl e101 c106 (g := (mkF m 129 #[.val (.ref a0_), .val (.ref b12), .val (.ref b23), .val (.int 0)] [(.ref a0_), (.int 9), (.ref b34), (.ref b34)])) rfl rfl (hb hby d3_129)
  refine Go.st st107 ?_
  show Go _ _ _ _ _ _ _ (T107.setTop (mkF m 132 _ [(.ref x_composites), (.int 9), (.ref b34), (.ref b34)]))
  obtain ⟨cl108, Ar108, q108, S108, M108, H108, G108⟩ := id V103
  have hin108 : ¬ ((9 : Int32) < 0 ∨ cl108.slots.size ≤ ((9 : Int32)).toNatClampNeg) := inb_of S108 ⟨by decide, by decide⟩
  have c109 := (((((((((((E_composites.ext E12).ext E23).ext E34).wr W43).wr W56).wr W63).wr W68).wr W75).wr W82).wr W89).wr W96).wr W101
  obtain ⟨T108, h108, X108, e108, W108, st108⟩ := stR X107 hx hZ e107 Ar108 (j := (9 : Int32)) hin108 rfl (Sto.ofVA Ar108 q108 O'34 (Ins.self c109)) (g := (mkF m 132 #[.val (.ref a0_), .val (.ref b12), .val (.ref b23), .val (.int 0)] [(.ref x_composites), (.int 9), (.ref b34), (.ref b34)])) rfl rfl (hb hby d3_132)
  have V110 : Arv Z h108 b34 k34 (.array .int) (10 : Int32) [(.ref x_foldingStarts), (.ref x_decomposed), (.ref x_decompositionStarts), (.ref b12), (.ref x_blockOf), (.ref x_blocks), (.ref x_folded), (.ref x_decompositions), (.ref b23), (.ref x_composites)] .null := Arv.set Ar108 q108 S108 M108 H108 G108 rfl W108 9 rfl (Nat.le_of_ble_eq_true rfl)
  have K111 := K104.wr W108 (Or.inr sz36)
  have O112 := O105.wr W108 g37
  have N108 := Fr.snoc X108 N101 g37
  refine Go.st st108 ?_
  show Go _ _ _ _ _ _ _ (T108.setTop (mkF m 133 _ [(.ref b34)]))
  have o113 : b12 < b34 := Nat.lt_trans o49 o51
  have ne114 : b12 ≠ b34 := Nat.ne_of_lt o113
  have c115 := (((((((((((V18.ext E23).ext E34).other W43 ne114).other W56 ne114).other W63 ne114).other W68 ne114).other W75 ne114).other W82 ne114).other W89 ne114).other W96 ne114).other W101 ne114).other W108 ne114
  have ne116 : b23 ≠ b34 := Nat.ne_of_lt o51
  have c117 := ((((((((((V29.ext E34).other W43 ne116).other W56 ne116).other W63 ne116).other W68 ne116).other W75 ne116).other W82 ne116).other W89 ne116).other W96 ne116).other W101 ne116).other W108 ne116
  refine Go.ret X108 (v := some (.ref b34)) (fun h => by rw [hret] at h; cases h) hlk (fun fs hr => retR X108 hx hret rfl rfl (hb hby d3_133) hr) ?_ (by decide) (by decide)
  show Q3_0 Z a0_ x_blockOf x_blocks x_foldingStarts x_folded x_decomposed x_decompositionStarts x_decompositions x_pairs x_composites kp_ h0 n0 _ T108.heap _
  rw [e108]
  exact ⟨b34, b12, b23, k12, k23, k34, rfl, N108, K111, c115, c117, V110⟩
theorem d3_27 : decode prog_71_method_6_code 27 = .ok (.aload_n 1, 1) := by decide +kernel
theorem d3_28 : decode prog_71_method_6_code 28 = .ok (.iload_n 3, 1) := by decide +kernel
theorem d3_29 : decode prog_71_method_6_code 29 = .ok (.aload_n 0, 1) := by decide +kernel
theorem d3_30 : decode prog_71_method_6_code 30 = .ok (.getfield 31, 3) := by decide +kernel
theorem d3_33 : decode prog_71_method_6_code 33 = .ok (.iload_n 3, 1) := by decide +kernel
theorem d3_34 : decode prog_71_method_6_code 34 = .ok (.laload, 1) := by decide +kernel
theorem d3_35 : decode prog_71_method_6_code 35 = .ok (.bipush 21, 2) := by decide +kernel
theorem d3_37 : decode prog_71_method_6_code 37 = .ok (.lushr, 1) := by decide +kernel
theorem d3_38 : decode prog_71_method_6_code 38 = .ok (.l2i, 1) := by decide +kernel
theorem d3_39 : decode prog_71_method_6_code 39 = .ok (.iastore, 1) := by decide +kernel
theorem d3_40 : decode prog_71_method_6_code 40 = .ok (.aload_n 2, 1) := by decide +kernel
theorem d3_41 : decode prog_71_method_6_code 41 = .ok (.iload_n 3, 1) := by decide +kernel
theorem d3_42 : decode prog_71_method_6_code 42 = .ok (.aload_n 0, 1) := by decide +kernel
theorem d3_43 : decode prog_71_method_6_code 43 = .ok (.getfield 31, 3) := by decide +kernel
theorem d3_46 : decode prog_71_method_6_code 46 = .ok (.iload_n 3, 1) := by decide +kernel
theorem d3_47 : decode prog_71_method_6_code 47 = .ok (.laload, 1) := by decide +kernel
theorem d3_48 : decode prog_71_method_6_code 48 = .ok (.ldc2_w 59, 3) := by decide +kernel
theorem tw36 : (Jvm.Cond.constantLong "com/example/docstride/docstride/search/words/CodePointTables" (59 : Nat) (2097151 : Int64)) ∈ tables_1 := List.mem_of_getElem? (i := 36) rfl
theorem d3_51 : decode prog_71_method_6_code 51 = .ok (.land, 1) := by decide +kernel
theorem d3_52 : decode prog_71_method_6_code 52 = .ok (.l2i, 1) := by decide +kernel
theorem d3_53 : decode prog_71_method_6_code 53 = .ok (.iastore, 1) := by decide +kernel
theorem d3_54 : decode prog_71_method_6_code 54 = .ok (.iinc 3 1, 3) := by decide +kernel
theorem d3_57 : decode prog_71_method_6_code 57 = .ok (.goto (-39), 3) := by decide +kernel
theorem ef3_2 (m : MethodId) (x0 : Addr) : entryFrame m #[(.ref x0)] 4 = mkF m 0 #[.val (.ref x0), .unset, .unset, .unset] [] := by first | (simp [entryFrame, mkF, argsToLocals, Value.category]; done) | rfl
def Q3_2 (Z : State) (a0_ : Addr) (x_blockOf : Addr) (x_blocks : Addr) (x_foldingStarts : Addr) (x_folded : Addr) (x_decomposed : Addr) (x_decompositionStarts : Addr) (x_decompositions : Addr) (x_pairs : Addr) (x_composites : Addr) (kp_ : ClassId) (k0_ : Int64) (k1_ : Int64) (h0 : Heap) (n0 : Nat) (v : Option Value) (h : Heap) (L : List Loc) : Prop := ∃ (b : Addr) (bf : Addr) (bs : Addr) (kf : ClassId) (ks : ClassId) (kr : ClassId), v = some (.ref b) ∧ Fr n0 L ∧ Keep h0 h [] ∧ Arv Z h bf kf .int (2 : Int32) [(.int (((k0_.toUInt64 >>> ((21 : Int32) &&& 0x3f).toInt64.toUInt64).toInt64).toInt32)), (.int (((k1_.toUInt64 >>> ((21 : Int32) &&& 0x3f).toInt64.toUInt64).toInt64).toInt32))] (.int 0) ∧ Arv Z h bs ks .int (2 : Int32) [(.int ((k0_ &&& (2097151 : Int64)).toInt32)), (.int ((k1_ &&& (2097151 : Int64)).toInt32))] (.int 0) ∧ Arv Z h b kr (.array .int) (10 : Int32) [(.ref x_foldingStarts), (.ref x_decomposed), (.ref x_decompositionStarts), (.ref bf), (.ref x_blockOf), (.ref x_blocks), (.ref x_folded), (.ref x_decompositions), (.ref bs), (.ref x_composites)] .null
theorem rm3_2 (l : Launch) (Z : State) (a0 : Array Value) (hw : ∀ d ∈ tables_1, d.before a0 Z = true) (ws : List Jvm.Cond) (a0_ : Addr) (x_blockOf : Addr) (x_blocks : Addr) (x_foldingStarts : Addr) (x_folded : Addr) (x_decomposed : Addr) (x_decompositionStarts : Addr) (x_decompositions : Addr) (x_pairs : Addr) (x_composites : Addr) (kp_ : ClassId) (k0_ : Int64) (k1_ : Int64) (h0 : Heap) (n0 : Nat) (Z0 : n0 ≤ h0.size) (O0 : Old Z n0 h0) (E0 : Exa Z h0 a0_ "com/example/docstride/docstride/search/words/CodePointTables") (F_blockOf : Fld Z h0 a0_ "com/example/docstride/docstride/search/words/CodePointTables" "blockOf" "[I" (.ref x_blockOf)) (F_blocks : Fld Z h0 a0_ "com/example/docstride/docstride/search/words/CodePointTables" "blocks" "[I" (.ref x_blocks)) (F_foldingStarts : Fld Z h0 a0_ "com/example/docstride/docstride/search/words/CodePointTables" "foldingStarts" "[I" (.ref x_foldingStarts)) (F_folded : Fld Z h0 a0_ "com/example/docstride/docstride/search/words/CodePointTables" "folded" "[I" (.ref x_folded)) (F_decomposed : Fld Z h0 a0_ "com/example/docstride/docstride/search/words/CodePointTables" "decomposed" "[I" (.ref x_decomposed)) (F_decompositionStarts : Fld Z h0 a0_ "com/example/docstride/docstride/search/words/CodePointTables" "decompositionStarts" "[I" (.ref x_decompositionStarts)) (F_decompositions : Fld Z h0 a0_ "com/example/docstride/docstride/search/words/CodePointTables" "decompositions" "[I" (.ref x_decompositions)) (F_pairs : Fld Z h0 a0_ "com/example/docstride/docstride/search/words/CodePointTables" "pairs" "[J" (.ref x_pairs)) (F_composites : Fld Z h0 a0_ "com/example/docstride/docstride/search/words/CodePointTables" "composites" "[I" (.ref x_composites)) (E_blockOf : Exa Z h0 x_blockOf "[I") (E_blocks : Exa Z h0 x_blocks "[I") (E_foldingStarts : Exa Z h0 x_foldingStarts "[I") (E_folded : Exa Z h0 x_folded "[I") (E_decomposed : Exa Z h0 x_decomposed "[I") (E_decompositionStarts : Exa Z h0 x_decompositionStarts "[I") (E_decompositions : Exa Z h0 x_decompositions "[I") (E_composites : Exa Z h0 x_composites "[I") (V_p : Arv Z h0 x_pairs kp_ .long (2 : Int32) [(.long k0_), (.long k1_)] (.long (0 : Int64))) :
    Met l Z ws (⟨"com/example/docstride/docstride/search/words/CodePointTables", "arrays", "()[[I"⟩ : MethodName) prog_71_method_6_code 4 (some (.array (.array .int))) (Rm 0 3 14 0) #[(.ref a0_)] h0 (Q3_2 Z a0_ x_blockOf x_blocks x_foldingStarts x_folded x_decomposed x_decompositionStarts x_decompositions x_pairs x_composites kp_ k0_ k1_ h0 n0) := by
  refine Met.enter (L0 := #[.val (.ref a0_), .unset, .unset, .unset]) (plainFor_of_name pn30) (fun m => ef3_2 m a0_) ?_
  intro p e s m below meth c s₁ hx hby hml hown hnm hret hlk hZ X0 e0
  have N0 := Fr.nil n0
  have K0 : Keep h0 h0 [] := Keep.refl h0 _
  refine Go.st (t' := s₁.setTop (mkF m 1 #[.val (.ref a0_), .unset, .unset, .unset] [(.ref a0_)])) (fun target kt => ?_) ?_
  · refine XS.aloadN X0.here hx rfl (hb hby d3_0) rfl rfl ?_
    exact kt
  obtain ⟨T10, X10, e10, st10⟩ := getF X0 hx hZ hown (host := "") (Or.inl (hw _ tw27)) Via.refl e0 F_pairs (g := (mkF m 1 #[.val (.ref a0_), .unset, .unset, .unset] [(.ref a0_)])) rfl rfl (hb hby d3_1)
  refine Go.st st10 ?_
  show Go _ _ _ _ _ _ _ (T10.setTop (mkF m 4 _ [(.ref x_pairs)]))
  obtain ⟨cl11, Ar11, -, S11, M11, -, -⟩ := id V_p
  refine Go.st (t' := T10.setTop (mkF m 5 #[.val (.ref a0_), .unset, .unset, .unset] [(.int 2)])) (fun target kt => ?_) ?_
  · refine X10.arraylength hx (by rw [e10]; exact Ar11.1) (State.isArrayOf_alike hZ.alike Ar11.2.1) (g := (mkF m 4 #[.val (.ref a0_), .unset, .unset, .unset] [(.ref x_pairs)])) rfl rfl (hb hby d3_4) _ ?_
    rw [len_of S11 M11]
    exact kt
  obtain ⟨T12, h12, k12, X12, e12, E12, A12, B12, st12⟩ := newPE (aty := .int) X10 hx hZ (hw _ tw3) e10 (g := (mkF m 5 #[.val (.ref a0_), .unset, .unset, .unset] [(.int 2)])) rfl (hb hby d3_5) rfl (by decide) (cap := 2) (by decide) (by decide) (by decide) (by decide) (ad := "[I") (by decide)
  obtain ⟨b12, g12⟩ : ∃ z, z = h0.size := ⟨_, rfl⟩
  rw [← g12] at A12 B12 st12
  have lb13 : h0.size ≤ b12 := Nat.le_of_eq g12.symm
  have sz14 : h0.size ≤ b12 := Nat.le_trans K0.1 lb13
  have g15 : n0 ≤ b12 := Nat.le_trans Z0 sz14
  have K16 := K0.ext E12
  have O17 := O0.ext E12
  have V18 : Arv Z h12 b12 k12 .int (2 : Int32) [(.int 0), (.int 0)] (.int 0) := (Arv.new A12 (by decide)).pad (pad_rep [] (.int 0) 2)
  refine Go.st st12 ?_
  show Go _ _ _ _ _ _ _ (T12.setTop (mkF m 7 _ [(.ref b12)]))
  refine Go.st (t' := T12.setTop (mkF m 9 #[.val (.ref a0_), .val (.ref b12), .unset, .unset] [(.ref a0_)])) (fun target kt => ?_) ?_
  · refine XS.astoreN X12.here hx rfl (hb hby d3_7) rfl rfl (l' := #[.val (.ref a0_), .val (.ref b12), .unset, .unset]) rfl ?_
    show Steps p.tables e below (T12.setTop (mkF m 8 _ [])) target
    refine XS.aloadN X12.here hx rfl (hb hby d3_8) rfl rfl ?_
    exact kt
  have c19 := F_pairs.ext E12
  obtain ⟨T20, X20, e20, st20⟩ := getF X12 hx hZ hown (host := "") (Or.inl (hw _ tw27)) Via.refl e12 c19 (g := (mkF m 9 #[.val (.ref a0_), .val (.ref b12), .unset, .unset] [(.ref a0_)])) rfl rfl (hb hby d3_9)
  refine Go.st st20 ?_
  show Go _ _ _ _ _ _ _ (T20.setTop (mkF m 12 _ [(.ref x_pairs)]))
  have c22 := V_p.ext E12
  obtain ⟨cl21, Ar21, -, S21, M21, -, -⟩ := id c22
  refine Go.st (t' := T20.setTop (mkF m 13 #[.val (.ref a0_), .val (.ref b12), .unset, .unset] [(.int 2)])) (fun target kt => ?_) ?_
  · refine X20.arraylength hx (by rw [e20]; exact Ar21.1) (State.isArrayOf_alike hZ.alike Ar21.2.1) (g := (mkF m 12 #[.val (.ref a0_), .val (.ref b12), .unset, .unset] [(.ref x_pairs)])) rfl rfl (hb hby d3_12) _ ?_
    rw [len_of S21 M21]
    exact kt
  obtain ⟨T23, h23, k23, X23, e23, E23, A23, B23, st23⟩ := newPE (aty := .int) X20 hx hZ (hw _ tw3) e20 (g := (mkF m 13 #[.val (.ref a0_), .val (.ref b12), .unset, .unset] [(.int 2)])) rfl (hb hby d3_13) rfl (by decide) (cap := 2) (by decide) (by decide) (by decide) (by decide) (ad := "[I") (by decide)
  obtain ⟨b23, g23⟩ : ∃ z, z = h12.size := ⟨_, rfl⟩
  rw [← g23] at A23 B23 st23
  have lb24 : h12.size ≤ b23 := Nat.le_of_eq g23.symm
  have sz25 : h0.size ≤ b23 := Nat.le_trans K16.1 lb24
  have g26 : n0 ≤ b23 := Nat.le_trans Z0 sz25
  have K27 := K16.ext E23
  have O28 := O17.ext E23
  have V29 : Arv Z h23 b23 k23 .int (2 : Int32) [(.int 0), (.int 0)] (.int 0) := (Arv.new A23 (by decide)).pad (pad_rep [] (.int 0) 2)
  refine Go.st st23 ?_
  show Go _ _ _ _ _ _ _ (T23.setTop (mkF m 15 _ [(.ref b23)]))
  refine Go.st (t' := T23.setTop (mkF m 20 #[.val (.ref a0_), .val (.ref b12), .val (.ref b23), .val (.int 0)] [(.ref a0_), (.int 0)])) (fun target kt => ?_) ?_
  · refine XS.astoreN X23.here hx rfl (hb hby d3_15) rfl rfl (l' := #[.val (.ref a0_), .val (.ref b12), .val (.ref b23), .unset]) rfl ?_
    show Steps p.tables e below (T23.setTop (mkF m 16 _ [])) target
    refine XS.iconst X23.here hx rfl (hb hby d3_16) ?_
    show Steps p.tables e below (T23.setTop (mkF m 17 _ [(.int 0)])) target
    refine XS.istoreN X23.here hx rfl (hb hby d3_17) rfl (l' := #[.val (.ref a0_), .val (.ref b12), .val (.ref b23), .val (.int 0)]) rfl ?_
    show Steps p.tables e below (T23.setTop (mkF m 18 _ [])) target
    refine XS.iloadN X23.here hx rfl (hb hby d3_18) rfl ?_
    show Steps p.tables e below (T23.setTop (mkF m 19 _ [(.int 0)])) target
    refine XS.aloadN X23.here hx rfl (hb hby d3_19) rfl rfl ?_
    exact kt
  have c30 := c19.ext E23
  obtain ⟨T31, X31, e31, st31⟩ := getF X23 hx hZ hown (host := "") (Or.inl (hw _ tw27)) Via.refl e23 c30 (g := (mkF m 20 #[.val (.ref a0_), .val (.ref b12), .val (.ref b23), .val (.int 0)] [(.ref a0_), (.int 0)])) rfl rfl (hb hby d3_20)
  refine Go.st st31 ?_
  show Go _ _ _ _ _ _ _ (T31.setTop (mkF m 23 _ [(.ref x_pairs), (.int 0)]))
  have c33 := c22.ext E23
  obtain ⟨cl32, Ar32, -, S32, M32, -, -⟩ := id c33
  refine Go.st (t' := T31.setTop (mkF m 30 #[.val (.ref a0_), .val (.ref b12), .val (.ref b23), .val (.int 0)] [(.ref a0_), (.int 0), (.ref b12)])) (fun target kt => ?_) ?_
  · refine X31.arraylength hx (by rw [e31]; exact Ar32.1) (State.isArrayOf_alike hZ.alike Ar32.2.1) (g := (mkF m 23 #[.val (.ref a0_), .val (.ref b12), .val (.ref b23), .val (.int 0)] [(.ref x_pairs), (.int 0)])) rfl rfl (hb hby d3_23) _ ?_
    rw [len_of S32 M32]
    show Steps p.tables e below (T31.setTop (mkF m 24 _ [(.int 2), (.int 0)])) target
    refine XS.icmpNo X31.here hx rfl (hb hby d3_24) rfl (tlt (by decide : (0 : Int32) < (2 : Int32))).2.1 ?_
    show Steps p.tables e below (T31.setTop (mkF m 27 _ [])) target
    refine XS.aloadN X31.here hx rfl (hb hby d3_27) rfl rfl ?_
    show Steps p.tables e below (T31.setTop (mkF m 28 _ [(.ref b12)])) target
    refine XS.iloadN X31.here hx rfl (hb hby d3_28) rfl ?_
    show Steps p.tables e below (T31.setTop (mkF m 29 _ [(.int 0), (.ref b12)])) target
    refine XS.aloadN X31.here hx rfl (hb hby d3_29) rfl rfl ?_
    exact kt
  obtain ⟨T34, X34, e34, st34⟩ := getF X31 hx hZ hown (host := "") (Or.inl (hw _ tw27)) Via.refl e31 c30 (g := (mkF m 30 #[.val (.ref a0_), .val (.ref b12), .val (.ref b23), .val (.int 0)] [(.ref a0_), (.int 0), (.ref b12)])) rfl rfl (hb hby d3_30)
  refine Go.st st34 ?_
  show Go _ _ _ _ _ _ _ (T34.setTop (mkF m 33 _ [(.ref x_pairs), (.int 0), (.ref b12)]))
  obtain ⟨cl35, Ar35, -, S35, M35, H35, -⟩ := id c33
  have hin35 : ¬ ((0 : Int32) < 0 ∨ cl35.slots.size ≤ ((0 : Int32)).toNatClampNeg) := inb_of S35 ⟨by decide, by decide⟩
  have hat35 : cl35.slots[((0 : Int32)).toNatClampNeg]? = some (.long k0_) := H35.at hin35 rfl
  refine Go.st (t' := T34.setTop (mkF m 39 #[.val (.ref a0_), .val (.ref b12), .val (.ref b23), .val (.int 0)] [(.int (((k0_.toUInt64 >>> ((21 : Int32) &&& 0x3f).toInt64.toUInt64).toInt64).toInt32)), (.int 0), (.ref b12)])) (fun target kt => ?_) ?_
  · refine XS.iloadN X34.here hx rfl (hb hby d3_33) rfl ?_
    show Steps p.tables e below (T34.setTop (mkF m 34 _ [(.int 0), (.ref x_pairs), (.int 0), (.ref b12)])) target
    refine X34.laload hx (j := (0 : Int32)) (v := (.long k0_)) (by rw [e34]; exact Ar35.1) (State.isArrayOf_alike hZ.alike Ar35.2.1) Ar35.2.2 hin35 hat35 (g := (mkF m 34 #[.val (.ref a0_), .val (.ref b12), .val (.ref b23), .val (.int 0)] [(.int 0), (.ref x_pairs), (.int 0), (.ref b12)])) rfl rfl (hb hby d3_34) _ ?_
    show Steps p.tables e below (T34.setTop (mkF m 35 _ [(.long k0_), (.int 0), (.ref b12)])) target
    refine XS.bipush X34.here hx rfl (hb hby d3_35) ?_
    show Steps p.tables e below (T34.setTop (mkF m 37 _ [(.int 21), (.long k0_), (.int 0), (.ref b12)])) target
    refine XS.lushr X34.here hx rfl (hb hby d3_37) rfl ?_
    show Steps p.tables e below (T34.setTop (mkF m 38 _ [(.long ((k0_.toUInt64 >>> ((21 : Int32) &&& 0x3f).toInt64.toUInt64).toInt64)), (.int 0), (.ref b12)])) target
    refine XS.l2i X34.here hx rfl (hb hby d3_38) rfl ?_
    exact kt
  have c36 := V18.ext E23
  obtain ⟨cl37, Ar37, q37, S37, M37, H37, G37⟩ := id c36
  have hin37 : ¬ ((0 : Int32) < 0 ∨ cl37.slots.size ≤ ((0 : Int32)).toNatClampNeg) := inb_of S37 ⟨by decide, by decide⟩
  obtain ⟨T37, h37, X37, e37, W37, st37⟩ := stI X34 hx hZ e34 Ar37 (j := (0 : Int32)) hin37 (g := (mkF m 39 #[.val (.ref a0_), .val (.ref b12), .val (.ref b23), .val (.int 0)] [(.int (((k0_.toUInt64 >>> ((21 : Int32) &&& 0x3f).toInt64.toUInt64).toInt64).toInt32)), (.int 0), (.ref b12)])) rfl rfl (hb hby d3_39)
  have V38 : Arv Z h37 b12 k12 .int (2 : Int32) [(.int (((k0_.toUInt64 >>> ((21 : Int32) &&& 0x3f).toInt64.toUInt64).toInt64).toInt32)), (.int 0)] (.int 0) := Arv.set Ar37 q37 S37 M37 H37 G37 rfl W37 0 rfl (Nat.le_of_ble_eq_true rfl)
  have K39 := K27.wr W37 (Or.inr sz14)
  have O40 := O28.wr W37 g15
  have N37 := Fr.snoc X37 N0 g15
  refine Go.st st37 ?_
  show Go _ _ _ _ _ _ _ (T37.setTop (mkF m 40 _ []))
  refine Go.st (t' := T37.setTop (mkF m 43 #[.val (.ref a0_), .val (.ref b12), .val (.ref b23), .val (.int 0)] [(.ref a0_), (.int 0), (.ref b23)])) (fun target kt => ?_) ?_
  · refine XS.aloadN X37.here hx rfl (hb hby d3_40) rfl rfl ?_
    show Steps p.tables e below (T37.setTop (mkF m 41 _ [(.ref b23)])) target
    refine XS.iloadN X37.here hx rfl (hb hby d3_41) rfl ?_
    show Steps p.tables e below (T37.setTop (mkF m 42 _ [(.int 0), (.ref b23)])) target
    refine XS.aloadN X37.here hx rfl (hb hby d3_42) rfl rfl ?_
    exact kt
  have o41 : a0_ < b12 := Nat.lt_of_lt_of_le E0.lt lb13
  have ne42 : a0_ ≠ b12 := Nat.ne_of_lt o41
  have c43 := c30.other W37 (Or.inl ne42)
  obtain ⟨T44, X44, e44, st44⟩ := getF X37 hx hZ hown (host := "") (Or.inl (hw _ tw27)) Via.refl e37 c43 (g := (mkF m 43 #[.val (.ref a0_), .val (.ref b12), .val (.ref b23), .val (.int 0)] [(.ref a0_), (.int 0), (.ref b23)])) rfl rfl (hb hby d3_43)
  refine Go.st st44 ?_
  show Go _ _ _ _ _ _ _ (T44.setTop (mkF m 46 _ [(.ref x_pairs), (.int 0), (.ref b23)]))
  have o45 : x_pairs < b12 := Nat.lt_of_lt_of_le V_p.lt lb13
  have ne46 : x_pairs ≠ b12 := Nat.ne_of_lt o45
  have c47 := c33.other W37 ne46
  obtain ⟨cl48, Ar48, -, S48, M48, H48, -⟩ := id c47
  have hin48 : ¬ ((0 : Int32) < 0 ∨ cl48.slots.size ≤ ((0 : Int32)).toNatClampNeg) := inb_of S48 ⟨by decide, by decide⟩
  have hat48 : cl48.slots[((0 : Int32)).toNatClampNeg]? = some (.long k0_) := H48.at hin48 rfl
  refine Go.st (t' := T44.setTop (mkF m 53 #[.val (.ref a0_), .val (.ref b12), .val (.ref b23), .val (.int 0)] [(.int ((k0_ &&& (2097151 : Int64)).toInt32)), (.int 0), (.ref b23)])) (fun target kt => ?_) ?_
  · refine XS.iloadN X44.here hx rfl (hb hby d3_46) rfl ?_
    show Steps p.tables e below (T44.setTop (mkF m 47 _ [(.int 0), (.ref x_pairs), (.int 0), (.ref b23)])) target
    refine X44.laload hx (j := (0 : Int32)) (v := (.long k0_)) (by rw [e44]; exact Ar48.1) (State.isArrayOf_alike hZ.alike Ar48.2.1) Ar48.2.2 hin48 hat48 (g := (mkF m 47 #[.val (.ref a0_), .val (.ref b12), .val (.ref b23), .val (.int 0)] [(.int 0), (.ref x_pairs), (.int 0), (.ref b23)])) rfl rfl (hb hby d3_47) _ ?_
    show Steps p.tables e below (T44.setTop (mkF m 48 _ [(.long k0_), (.int 0), (.ref b23)])) target
    refine X44.ldc2Long hx hown (mvT hZ (hw _ tw36)) (g := (mkF m 48 #[.val (.ref a0_), .val (.ref b12), .val (.ref b23), .val (.int 0)] [(.long k0_), (.int 0), (.ref b23)])) rfl (hb hby d3_48) _ ?_
    show Steps p.tables e below (T44.setTop (mkF m 51 _ [(.long (2097151 : Int64)), (.long k0_), (.int 0), (.ref b23)])) target
    refine XS.land X44.here hx rfl (hb hby d3_51) rfl ?_
    show Steps p.tables e below (T44.setTop (mkF m 52 _ [(.long (k0_ &&& (2097151 : Int64))), (.int 0), (.ref b23)])) target
    refine XS.l2i X44.here hx rfl (hb hby d3_52) rfl ?_
    exact kt
  have o49 : b12 < b23 := Nat.lt_of_lt_of_le V18.lt lb24
  have ne50 : b12 ≠ b23 := Nat.ne_of_lt o49
  have c51 := V29.other W37 (Ne.symm ne50)
  obtain ⟨cl52, Ar52, q52, S52, M52, H52, G52⟩ := id c51
  have hin52 : ¬ ((0 : Int32) < 0 ∨ cl52.slots.size ≤ ((0 : Int32)).toNatClampNeg) := inb_of S52 ⟨by decide, by decide⟩
  obtain ⟨T52, h52, X52, e52, W52, st52⟩ := stI X44 hx hZ e44 Ar52 (j := (0 : Int32)) hin52 (g := (mkF m 53 #[.val (.ref a0_), .val (.ref b12), .val (.ref b23), .val (.int 0)] [(.int ((k0_ &&& (2097151 : Int64)).toInt32)), (.int 0), (.ref b23)])) rfl rfl (hb hby d3_53)
  have V53 : Arv Z h52 b23 k23 .int (2 : Int32) [(.int ((k0_ &&& (2097151 : Int64)).toInt32)), (.int 0)] (.int 0) := Arv.set Ar52 q52 S52 M52 H52 G52 rfl W52 0 rfl (Nat.le_of_ble_eq_true rfl)
  have K54 := K39.wr W52 (Or.inr sz25)
  have O55 := O40.wr W52 g26
  have N52 := Fr.snoc X52 N37 g26
  refine Go.st st52 ?_
  show Go _ _ _ _ _ _ _ (T52.setTop (mkF m 54 _ []))
  refine Go.st (t' := T52.setTop (mkF m 20 #[.val (.ref a0_), .val (.ref b12), .val (.ref b23), .val (.int 1)] [(.ref a0_), (.int 1)])) (fun target kt => ?_) ?_
  · refine XS.iinc X52.here hx rfl (hb hby d3_54) rfl (l' := #[.val (.ref a0_), .val (.ref b12), .val (.ref b23), .val (.int 1)]) rfl ?_
    show Steps p.tables e below (T52.setTop (mkF m 57 _ [])) target
    refine XS.goto X52.here hx rfl (pc0 := 57) (pc' := 18) rfl (hb hby d3_57) (by decide) (by decide) ?_
    show Steps p.tables e below (T52.setTop (mkF m 18 _ [])) target
    refine XS.iloadN X52.here hx rfl (hb hby d3_18) rfl ?_
    show Steps p.tables e below (T52.setTop (mkF m 19 _ [(.int 1)])) target
    refine XS.aloadN X52.here hx rfl (hb hby d3_19) rfl rfl ?_
    exact kt
  have o56 : a0_ < b23 := Nat.lt_trans o41 o49
  have ne57 : a0_ ≠ b23 := Nat.ne_of_lt o56
  have c58 := c43.other W52 (Or.inl ne57)
  obtain ⟨T59, X59, e59, st59⟩ := getF X52 hx hZ hown (host := "") (Or.inl (hw _ tw27)) Via.refl e52 c58 (g := (mkF m 20 #[.val (.ref a0_), .val (.ref b12), .val (.ref b23), .val (.int 1)] [(.ref a0_), (.int 1)])) rfl rfl (hb hby d3_20)
  refine Go.st st59 ?_
  show Go _ _ _ _ _ _ _ (T59.setTop (mkF m 23 _ [(.ref x_pairs), (.int 1)]))
  have o61 : x_pairs < b23 := Nat.lt_trans o45 o49
  have ne62 : x_pairs ≠ b23 := Nat.ne_of_lt o61
  have c63 := c47.other W52 ne62
  obtain ⟨cl60, Ar60, -, S60, M60, -, -⟩ := id c63
  refine Go.st (t' := T59.setTop (mkF m 30 #[.val (.ref a0_), .val (.ref b12), .val (.ref b23), .val (.int 1)] [(.ref a0_), (.int 1), (.ref b12)])) (fun target kt => ?_) ?_
  · refine X59.arraylength hx (by rw [e59]; exact Ar60.1) (State.isArrayOf_alike hZ.alike Ar60.2.1) (g := (mkF m 23 #[.val (.ref a0_), .val (.ref b12), .val (.ref b23), .val (.int 1)] [(.ref x_pairs), (.int 1)])) rfl rfl (hb hby d3_23) _ ?_
    rw [len_of S60 M60]
    show Steps p.tables e below (T59.setTop (mkF m 24 _ [(.int 2), (.int 1)])) target
    refine XS.icmpNo X59.here hx rfl (hb hby d3_24) rfl (tlt (by decide : (1 : Int32) < (2 : Int32))).2.1 ?_
    show Steps p.tables e below (T59.setTop (mkF m 27 _ [])) target
    refine XS.aloadN X59.here hx rfl (hb hby d3_27) rfl rfl ?_
    show Steps p.tables e below (T59.setTop (mkF m 28 _ [(.ref b12)])) target
    refine XS.iloadN X59.here hx rfl (hb hby d3_28) rfl ?_
    show Steps p.tables e below (T59.setTop (mkF m 29 _ [(.int 1), (.ref b12)])) target
    refine XS.aloadN X59.here hx rfl (hb hby d3_29) rfl rfl ?_
    exact kt
  obtain ⟨T64, X64, e64, st64⟩ := getF X59 hx hZ hown (host := "") (Or.inl (hw _ tw27)) Via.refl e59 c58 (g := (mkF m 30 #[.val (.ref a0_), .val (.ref b12), .val (.ref b23), .val (.int 1)] [(.ref a0_), (.int 1), (.ref b12)])) rfl rfl (hb hby d3_30)
  refine Go.st st64 ?_
  show Go _ _ _ _ _ _ _ (T64.setTop (mkF m 33 _ [(.ref x_pairs), (.int 1), (.ref b12)]))
  obtain ⟨cl65, Ar65, -, S65, M65, H65, -⟩ := id c63
  have hin65 : ¬ ((1 : Int32) < 0 ∨ cl65.slots.size ≤ ((1 : Int32)).toNatClampNeg) := inb_of S65 ⟨by decide, by decide⟩
  have hat65 : cl65.slots[((1 : Int32)).toNatClampNeg]? = some (.long k1_) := H65.at hin65 rfl
  refine Go.st (t' := T64.setTop (mkF m 39 #[.val (.ref a0_), .val (.ref b12), .val (.ref b23), .val (.int 1)] [(.int (((k1_.toUInt64 >>> ((21 : Int32) &&& 0x3f).toInt64.toUInt64).toInt64).toInt32)), (.int 1), (.ref b12)])) (fun target kt => ?_) ?_
  · refine XS.iloadN X64.here hx rfl (hb hby d3_33) rfl ?_
    show Steps p.tables e below (T64.setTop (mkF m 34 _ [(.int 1), (.ref x_pairs), (.int 1), (.ref b12)])) target
    refine X64.laload hx (j := (1 : Int32)) (v := (.long k1_)) (by rw [e64]; exact Ar65.1) (State.isArrayOf_alike hZ.alike Ar65.2.1) Ar65.2.2 hin65 hat65 (g := (mkF m 34 #[.val (.ref a0_), .val (.ref b12), .val (.ref b23), .val (.int 1)] [(.int 1), (.ref x_pairs), (.int 1), (.ref b12)])) rfl rfl (hb hby d3_34) _ ?_
    show Steps p.tables e below (T64.setTop (mkF m 35 _ [(.long k1_), (.int 1), (.ref b12)])) target
    refine XS.bipush X64.here hx rfl (hb hby d3_35) ?_
    show Steps p.tables e below (T64.setTop (mkF m 37 _ [(.int 21), (.long k1_), (.int 1), (.ref b12)])) target
    refine XS.lushr X64.here hx rfl (hb hby d3_37) rfl ?_
    show Steps p.tables e below (T64.setTop (mkF m 38 _ [(.long ((k1_.toUInt64 >>> ((21 : Int32) &&& 0x3f).toInt64.toUInt64).toInt64)), (.int 1), (.ref b12)])) target
    refine XS.l2i X64.here hx rfl (hb hby d3_38) rfl ?_
    exact kt
  have c66 := V38.other W52 ne50
  obtain ⟨cl67, Ar67, q67, S67, M67, H67, G67⟩ := id c66
  have hin67 : ¬ ((1 : Int32) < 0 ∨ cl67.slots.size ≤ ((1 : Int32)).toNatClampNeg) := inb_of S67 ⟨by decide, by decide⟩
  obtain ⟨T67, h67, X67, e67, W67, st67⟩ := stI X64 hx hZ e64 Ar67 (j := (1 : Int32)) hin67 (g := (mkF m 39 #[.val (.ref a0_), .val (.ref b12), .val (.ref b23), .val (.int 1)] [(.int (((k1_.toUInt64 >>> ((21 : Int32) &&& 0x3f).toInt64.toUInt64).toInt64).toInt32)), (.int 1), (.ref b12)])) rfl rfl (hb hby d3_39)
  have V68 : Arv Z h67 b12 k12 .int (2 : Int32) [(.int (((k0_.toUInt64 >>> ((21 : Int32) &&& 0x3f).toInt64.toUInt64).toInt64).toInt32)), (.int (((k1_.toUInt64 >>> ((21 : Int32) &&& 0x3f).toInt64.toUInt64).toInt64).toInt32))] (.int 0) := Arv.set Ar67 q67 S67 M67 H67 G67 rfl W67 1 rfl (Nat.le_of_ble_eq_true rfl)
  have K69 := K54.wr W67 (Or.inr sz14)
  have O70 := O55.wr W67 g15
  have N67 := Fr.snoc X67 N52 g15
  refine Go.st st67 ?_
  show Go _ _ _ _ _ _ _ (T67.setTop (mkF m 40 _ []))
  refine Go.st (t' := T67.setTop (mkF m 43 #[.val (.ref a0_), .val (.ref b12), .val (.ref b23), .val (.int 1)] [(.ref a0_), (.int 1), (.ref b23)])) (fun target kt => ?_) ?_
  · refine XS.aloadN X67.here hx rfl (hb hby d3_40) rfl rfl ?_
    show Steps p.tables e below (T67.setTop (mkF m 41 _ [(.ref b23)])) target
    refine XS.iloadN X67.here hx rfl (hb hby d3_41) rfl ?_
    show Steps p.tables e below (T67.setTop (mkF m 42 _ [(.int 1), (.ref b23)])) target
    refine XS.aloadN X67.here hx rfl (hb hby d3_42) rfl rfl ?_
    exact kt
  have c71 := c58.other W67 (Or.inl ne42)
  obtain ⟨T72, X72, e72, st72⟩ := getF X67 hx hZ hown (host := "") (Or.inl (hw _ tw27)) Via.refl e67 c71 (g := (mkF m 43 #[.val (.ref a0_), .val (.ref b12), .val (.ref b23), .val (.int 1)] [(.ref a0_), (.int 1), (.ref b23)])) rfl rfl (hb hby d3_43)
  refine Go.st st72 ?_
  show Go _ _ _ _ _ _ _ (T72.setTop (mkF m 46 _ [(.ref x_pairs), (.int 1), (.ref b23)]))
  have c73 := c63.other W67 ne46
  obtain ⟨cl74, Ar74, -, S74, M74, H74, -⟩ := id c73
  have hin74 : ¬ ((1 : Int32) < 0 ∨ cl74.slots.size ≤ ((1 : Int32)).toNatClampNeg) := inb_of S74 ⟨by decide, by decide⟩
  have hat74 : cl74.slots[((1 : Int32)).toNatClampNeg]? = some (.long k1_) := H74.at hin74 rfl
  refine Go.st (t' := T72.setTop (mkF m 53 #[.val (.ref a0_), .val (.ref b12), .val (.ref b23), .val (.int 1)] [(.int ((k1_ &&& (2097151 : Int64)).toInt32)), (.int 1), (.ref b23)])) (fun target kt => ?_) ?_
  · refine XS.iloadN X72.here hx rfl (hb hby d3_46) rfl ?_
    show Steps p.tables e below (T72.setTop (mkF m 47 _ [(.int 1), (.ref x_pairs), (.int 1), (.ref b23)])) target
    refine X72.laload hx (j := (1 : Int32)) (v := (.long k1_)) (by rw [e72]; exact Ar74.1) (State.isArrayOf_alike hZ.alike Ar74.2.1) Ar74.2.2 hin74 hat74 (g := (mkF m 47 #[.val (.ref a0_), .val (.ref b12), .val (.ref b23), .val (.int 1)] [(.int 1), (.ref x_pairs), (.int 1), (.ref b23)])) rfl rfl (hb hby d3_47) _ ?_
    show Steps p.tables e below (T72.setTop (mkF m 48 _ [(.long k1_), (.int 1), (.ref b23)])) target
    refine X72.ldc2Long hx hown (mvT hZ (hw _ tw36)) (g := (mkF m 48 #[.val (.ref a0_), .val (.ref b12), .val (.ref b23), .val (.int 1)] [(.long k1_), (.int 1), (.ref b23)])) rfl (hb hby d3_48) _ ?_
    show Steps p.tables e below (T72.setTop (mkF m 51 _ [(.long (2097151 : Int64)), (.long k1_), (.int 1), (.ref b23)])) target
    refine XS.land X72.here hx rfl (hb hby d3_51) rfl ?_
    show Steps p.tables e below (T72.setTop (mkF m 52 _ [(.long (k1_ &&& (2097151 : Int64))), (.int 1), (.ref b23)])) target
    refine XS.l2i X72.here hx rfl (hb hby d3_52) rfl ?_
    exact kt
  have c75 := V53.other W67 (Ne.symm ne50)
  obtain ⟨cl76, Ar76, q76, S76, M76, H76, G76⟩ := id c75
  have hin76 : ¬ ((1 : Int32) < 0 ∨ cl76.slots.size ≤ ((1 : Int32)).toNatClampNeg) := inb_of S76 ⟨by decide, by decide⟩
  obtain ⟨T76, h76, X76, e76, W76, st76⟩ := stI X72 hx hZ e72 Ar76 (j := (1 : Int32)) hin76 (g := (mkF m 53 #[.val (.ref a0_), .val (.ref b12), .val (.ref b23), .val (.int 1)] [(.int ((k1_ &&& (2097151 : Int64)).toInt32)), (.int 1), (.ref b23)])) rfl rfl (hb hby d3_53)
  have V77 : Arv Z h76 b23 k23 .int (2 : Int32) [(.int ((k0_ &&& (2097151 : Int64)).toInt32)), (.int ((k1_ &&& (2097151 : Int64)).toInt32))] (.int 0) := Arv.set Ar76 q76 S76 M76 H76 G76 rfl W76 1 rfl (Nat.le_of_ble_eq_true rfl)
  have K78 := K69.wr W76 (Or.inr sz25)
  have O79 := O70.wr W76 g26
  have N76 := Fr.snoc X76 N67 g26
  refine Go.st st76 ?_
  show Go _ _ _ _ _ _ _ (T76.setTop (mkF m 54 _ []))
  refine Go.st (t' := T76.setTop (mkF m 20 #[.val (.ref a0_), .val (.ref b12), .val (.ref b23), .val (.int 2)] [(.ref a0_), (.int 2)])) (fun target kt => ?_) ?_
  · refine XS.iinc X76.here hx rfl (hb hby d3_54) rfl (l' := #[.val (.ref a0_), .val (.ref b12), .val (.ref b23), .val (.int 2)]) rfl ?_
    show Steps p.tables e below (T76.setTop (mkF m 57 _ [])) target
    refine XS.goto X76.here hx rfl (pc0 := 57) (pc' := 18) rfl (hb hby d3_57) (by decide) (by decide) ?_
    show Steps p.tables e below (T76.setTop (mkF m 18 _ [])) target
    refine XS.iloadN X76.here hx rfl (hb hby d3_18) rfl ?_
    show Steps p.tables e below (T76.setTop (mkF m 19 _ [(.int 2)])) target
    refine XS.aloadN X76.here hx rfl (hb hby d3_19) rfl rfl ?_
    exact kt
  have c80 := c71.other W76 (Or.inl ne57)
  obtain ⟨T81, X81, e81, st81⟩ := getF X76 hx hZ hown (host := "") (Or.inl (hw _ tw27)) Via.refl e76 c80 (g := (mkF m 20 #[.val (.ref a0_), .val (.ref b12), .val (.ref b23), .val (.int 2)] [(.ref a0_), (.int 2)])) rfl rfl (hb hby d3_20)
  refine Go.st st81 ?_
  show Go _ _ _ _ _ _ _ (T81.setTop (mkF m 23 _ [(.ref x_pairs), (.int 2)]))
  have c83 := c73.other W76 ne62
  obtain ⟨cl82, Ar82, -, S82, M82, -, -⟩ := id c83
  refine Go.st (t' := T81.setTop (mkF m 62 #[.val (.ref a0_), .val (.ref b12), .val (.ref b23), .val (.int 2)] [(.int 10)])) (fun target kt => ?_) ?_
  · refine X81.arraylength hx (by rw [e81]; exact Ar82.1) (State.isArrayOf_alike hZ.alike Ar82.2.1) (g := (mkF m 23 #[.val (.ref a0_), .val (.ref b12), .val (.ref b23), .val (.int 2)] [(.ref x_pairs), (.int 2)])) rfl rfl (hb hby d3_23) _ ?_
    rw [len_of S82 M82]
    show Steps p.tables e below (T81.setTop (mkF m 24 _ [(.int 2), (.int 2)])) target
    refine XS.icmpYes X81.here hx rfl (pc0 := 24) (pc' := 60) rfl (hb hby d3_24) rfl (flt (by decide : ¬ ((2 : Int32) < (2 : Int32)))).2.1 (by decide) (by decide) ?_
    show Steps p.tables e below (T81.setTop (mkF m 60 _ [])) target
    refine XS.bipush X81.here hx rfl (hb hby d3_60) ?_
    exact kt
  obtain ⟨T84, h84, k84, X84, e84, E84, A84, B84, O'84, st84⟩ := newRA X81 hx hZ hown (by decide) (hw _ tw37) (hw _ tw38) e81 (g := (mkF m 62 #[.val (.ref a0_), .val (.ref b12), .val (.ref b23), .val (.int 2)] [(.int 10)])) rfl (hb hby d3_62) rfl (by decide) (cap := 10) (by decide) (by decide) (by decide) (by decide) (ad := "[[I") (by decide)
  obtain ⟨b84, g84⟩ : ∃ z, z = h76.size := ⟨_, rfl⟩
  rw [← g84] at A84 B84 st84
  have lb85 : h76.size ≤ b84 := Nat.le_of_eq g84.symm
  have sz86 : h0.size ≤ b84 := Nat.le_trans K78.1 lb85
  have g87 : n0 ≤ b84 := Nat.le_trans Z0 sz86
  have K88 := K78.ext E84
  have O89 := O79.ext E84
  have V90 : Arv Z h84 b84 k84 (.array .int) (10 : Int32) [.null, .null, .null, .null, .null, .null, .null, .null, .null, .null] .null := (Arv.new A84 (by decide)).pad (pad_rep [] .null 10)
  refine Go.st st84 ?_
  show Go _ _ _ _ _ _ _ (T84.setTop (mkF m 65 _ [(.ref b84)]))
  refine Go.st (t' := T84.setTop (mkF m 68 #[.val (.ref a0_), .val (.ref b12), .val (.ref b23), .val (.int 2)] [(.ref a0_), (.int 0), (.ref b84), (.ref b84)])) (fun target kt => ?_) ?_
  · refine XS.dup X84.here hx rfl (hb hby d3_65) rfl rfl ?_
    show Steps p.tables e below (T84.setTop (mkF m 66 _ [(.ref b84), (.ref b84)])) target
    refine XS.iconst X84.here hx rfl (hb hby d3_66) ?_
    show Steps p.tables e below (T84.setTop (mkF m 67 _ [(.int 0), (.ref b84), (.ref b84)])) target
    refine XS.aloadN X84.here hx rfl (hb hby d3_67) rfl rfl ?_
    exact kt
  have c91 := ((((((F_foldingStarts.ext E12).ext E23).other W37 (Or.inl ne42)).other W52 (Or.inl ne57)).other W67 (Or.inl ne42)).other W76 (Or.inl ne57)).ext E84
  obtain ⟨T92, X92, e92, st92⟩ := getF X84 hx hZ hown (host := "") (Or.inl (hw _ tw17)) Via.refl e84 c91 (g := (mkF m 68 #[.val (.ref a0_), .val (.ref b12), .val (.ref b23), .val (.int 2)] [(.ref a0_), (.int 0), (.ref b84), (.ref b84)])) rfl rfl (hb hby d3_68)
  refine Go.st st92 ?_
  show Go _ _ _ _ _ _ _ (T92.setTop (mkF m 71 _ [(.ref x_foldingStarts), (.int 0), (.ref b84), (.ref b84)]))
  obtain ⟨cl93, Ar93, q93, S93, M93, H93, G93⟩ := id V90
  have hin93 : ¬ ((0 : Int32) < 0 ∨ cl93.slots.size ≤ ((0 : Int32)).toNatClampNeg) := inb_of S93 ⟨by decide, by decide⟩
  have c94 := ((((((E_foldingStarts.ext E12).ext E23).wr W37).wr W52).wr W67).wr W76).ext E84
  obtain ⟨T93, h93, X93, e93, W93, st93⟩ := stR X92 hx hZ e92 Ar93 (j := (0 : Int32)) hin93 rfl (Sto.ofVA Ar93 q93 O'84 (Ins.self c94)) (g := (mkF m 71 #[.val (.ref a0_), .val (.ref b12), .val (.ref b23), .val (.int 2)] [(.ref x_foldingStarts), (.int 0), (.ref b84), (.ref b84)])) rfl rfl (hb hby d3_71)
  have V95 : Arv Z h93 b84 k84 (.array .int) (10 : Int32) [(.ref x_foldingStarts), .null, .null, .null, .null, .null, .null, .null, .null, .null] .null := Arv.set Ar93 q93 S93 M93 H93 G93 rfl W93 0 rfl (Nat.le_of_ble_eq_true rfl)
  have K96 := K88.wr W93 (Or.inr sz86)
  have O97 := O89.wr W93 g87
  have N93 := Fr.snoc X93 N76 g87
  refine Go.st st93 ?_
  show Go _ _ _ _ _ _ _ (T93.setTop (mkF m 72 _ [(.ref b84)]))
  refine Go.st (t' := T93.setTop (mkF m 75 #[.val (.ref a0_), .val (.ref b12), .val (.ref b23), .val (.int 2)] [(.ref a0_), (.int 1), (.ref b84), (.ref b84)])) (fun target kt => ?_) ?_
  · refine XS.dup X93.here hx rfl (hb hby d3_72) rfl rfl ?_
    show Steps p.tables e below (T93.setTop (mkF m 73 _ [(.ref b84), (.ref b84)])) target
    refine XS.iconst X93.here hx rfl (hb hby d3_73) ?_
    show Steps p.tables e below (T93.setTop (mkF m 74 _ [(.int 1), (.ref b84), (.ref b84)])) target
    refine XS.aloadN X93.here hx rfl (hb hby d3_74) rfl rfl ?_
    exact kt
  have o98 : b23 < b84 := Nat.lt_of_lt_of_le V29.lt (Nat.le_trans (Nat.le_trans (Nat.le_trans (Nat.le_trans (Keep.of_wr W37).1 (Keep.of_wr W52).1) (Keep.of_wr W67).1) (Keep.of_wr W76).1) lb85)
  have o99 : a0_ < b84 := Nat.lt_trans o56 o98
  have ne100 : a0_ ≠ b84 := Nat.ne_of_lt o99
  have c101 := (((((((F_decomposed.ext E12).ext E23).other W37 (Or.inl ne42)).other W52 (Or.inl ne57)).other W67 (Or.inl ne42)).other W76 (Or.inl ne57)).ext E84).other W93 (Or.inl ne100)
  obtain ⟨T102, X102, e102, st102⟩ := getF X93 hx hZ hown (host := "") (Or.inl (hw _ tw21)) Via.refl e93 c101 (g := (mkF m 75 #[.val (.ref a0_), .val (.ref b12), .val (.ref b23), .val (.int 2)] [(.ref a0_), (.int 1), (.ref b84), (.ref b84)])) rfl rfl (hb hby d3_75)
  refine Go.st st102 ?_
  show Go _ _ _ _ _ _ _ (T102.setTop (mkF m 78 _ [(.ref x_decomposed), (.int 1), (.ref b84), (.ref b84)]))
  obtain ⟨cl103, Ar103, q103, S103, M103, H103, G103⟩ := id V95
  have hin103 : ¬ ((1 : Int32) < 0 ∨ cl103.slots.size ≤ ((1 : Int32)).toNatClampNeg) := inb_of S103 ⟨by decide, by decide⟩
  have c104 := (((((((E_decomposed.ext E12).ext E23).wr W37).wr W52).wr W67).wr W76).ext E84).wr W93
  obtain ⟨T103, h103, X103, e103, W103, st103⟩ := stR X102 hx hZ e102 Ar103 (j := (1 : Int32)) hin103 rfl (Sto.ofVA Ar103 q103 O'84 (Ins.self c104)) (g := (mkF m 78 #[.val (.ref a0_), .val (.ref b12), .val (.ref b23), .val (.int 2)] [(.ref x_decomposed), (.int 1), (.ref b84), (.ref b84)])) rfl rfl (hb hby d3_78)
  have V105 : Arv Z h103 b84 k84 (.array .int) (10 : Int32) [(.ref x_foldingStarts), (.ref x_decomposed), .null, .null, .null, .null, .null, .null, .null, .null] .null := Arv.set Ar103 q103 S103 M103 H103 G103 rfl W103 1 rfl (Nat.le_of_ble_eq_true rfl)
  have K106 := K96.wr W103 (Or.inr sz86)
  have O107 := O97.wr W103 g87
  have N103 := Fr.snoc X103 N93 g87
  refine Go.st st103 ?_
  show Go _ _ _ _ _ _ _ (T103.setTop (mkF m 79 _ [(.ref b84)]))
  refine Go.st (t' := T103.setTop (mkF m 82 #[.val (.ref a0_), .val (.ref b12), .val (.ref b23), .val (.int 2)] [(.ref a0_), (.int 2), (.ref b84), (.ref b84)])) (fun target kt => ?_) ?_
  · refine XS.dup X103.here hx rfl (hb hby d3_79) rfl rfl ?_
    show Steps p.tables e below (T103.setTop (mkF m 80 _ [(.ref b84), (.ref b84)])) target
    refine XS.iconst X103.here hx rfl (hb hby d3_80) ?_
    show Steps p.tables e below (T103.setTop (mkF m 81 _ [(.int 2), (.ref b84), (.ref b84)])) target
    refine XS.aloadN X103.here hx rfl (hb hby d3_81) rfl rfl ?_
    exact kt
  have c108 := ((((((((F_decompositionStarts.ext E12).ext E23).other W37 (Or.inl ne42)).other W52 (Or.inl ne57)).other W67 (Or.inl ne42)).other W76 (Or.inl ne57)).ext E84).other W93 (Or.inl ne100)).other W103 (Or.inl ne100)
  obtain ⟨T109, X109, e109, st109⟩ := getF X103 hx hZ hown (host := "") (Or.inl (hw _ tw23)) Via.refl e103 c108 (g := (mkF m 82 #[.val (.ref a0_), .val (.ref b12), .val (.ref b23), .val (.int 2)] [(.ref a0_), (.int 2), (.ref b84), (.ref b84)])) rfl rfl (hb hby d3_82)
  refine Go.st st109 ?_
  show Go _ _ _ _ _ _ _ (T109.setTop (mkF m 85 _ [(.ref x_decompositionStarts), (.int 2), (.ref b84), (.ref b84)]))
  obtain ⟨cl110, Ar110, q110, S110, M110, H110, G110⟩ := id V105
  have hin110 : ¬ ((2 : Int32) < 0 ∨ cl110.slots.size ≤ ((2 : Int32)).toNatClampNeg) := inb_of S110 ⟨by decide, by decide⟩
  have c111 := ((((((((E_decompositionStarts.ext E12).ext E23).wr W37).wr W52).wr W67).wr W76).ext E84).wr W93).wr W103
  obtain ⟨T110, h110, X110, e110, W110, st110⟩ := stR X109 hx hZ e109 Ar110 (j := (2 : Int32)) hin110 rfl (Sto.ofVA Ar110 q110 O'84 (Ins.self c111)) (g := (mkF m 85 #[.val (.ref a0_), .val (.ref b12), .val (.ref b23), .val (.int 2)] [(.ref x_decompositionStarts), (.int 2), (.ref b84), (.ref b84)])) rfl rfl (hb hby d3_85)
  have V112 : Arv Z h110 b84 k84 (.array .int) (10 : Int32) [(.ref x_foldingStarts), (.ref x_decomposed), (.ref x_decompositionStarts), .null, .null, .null, .null, .null, .null, .null] .null := Arv.set Ar110 q110 S110 M110 H110 G110 rfl W110 2 rfl (Nat.le_of_ble_eq_true rfl)
  have K113 := K106.wr W110 (Or.inr sz86)
  have O114 := O107.wr W110 g87
  have N110 := Fr.snoc X110 N103 g87
  refine Go.st st110 ?_
  show Go _ _ _ _ _ _ _ (T110.setTop (mkF m 86 _ [(.ref b84)]))
  refine Go.st (t' := T110.setTop (mkF m 89 #[.val (.ref a0_), .val (.ref b12), .val (.ref b23), .val (.int 2)] [(.ref b12), (.int 3), (.ref b84), (.ref b84)])) (fun target kt => ?_) ?_
  · refine XS.dup X110.here hx rfl (hb hby d3_86) rfl rfl ?_
    show Steps p.tables e below (T110.setTop (mkF m 87 _ [(.ref b84), (.ref b84)])) target
    refine XS.iconst X110.here hx rfl (hb hby d3_87) ?_
    show Steps p.tables e below (T110.setTop (mkF m 88 _ [(.int 3), (.ref b84), (.ref b84)])) target
    refine XS.aloadN X110.here hx rfl (hb hby d3_88) rfl rfl ?_
    exact kt
  obtain ⟨cl115, Ar115, q115, S115, M115, H115, G115⟩ := id V112
  have hin115 : ¬ ((3 : Int32) < 0 ∨ cl115.slots.size ≤ ((3 : Int32)).toNatClampNeg) := inb_of S115 ⟨by decide, by decide⟩
  have c116 := ((((((((B12.ext E23).wr W37).wr W52).wr W67).wr W76).ext E84).wr W93).wr W103).wr W110
  obtain ⟨T115, h115, X115, e115, W115, st115⟩ := stR X110 hx hZ e110 Ar115 (j := (3 : Int32)) hin115 rfl (Sto.ofVA Ar115 q115 O'84 (Ins.self c116)) (g := (mkF m 89 #[.val (.ref a0_), .val (.ref b12), .val (.ref b23), .val (.int 2)] [(.ref b12), (.int 3), (.ref b84), (.ref b84)])) rfl rfl (hb hby d3_89)
  have V117 : Arv Z h115 b84 k84 (.array .int) (10 : Int32) [(.ref x_foldingStarts), (.ref x_decomposed), (.ref x_decompositionStarts), (.ref b12), .null, .null, .null, .null, .null, .null] .null := Arv.set Ar115 q115 S115 M115 H115 G115 rfl W115 3 rfl (Nat.le_of_ble_eq_true rfl)
  have K118 := K113.wr W115 (Or.inr sz86)
  have O119 := O114.wr W115 g87
  have N115 := Fr.snoc X115 N110 g87
  refine Go.st st115 ?_
  show Go _ _ _ _ _ _ _ (T115.setTop (mkF m 90 _ [(.ref b84)]))
  refine Go.st (t' := T115.setTop (mkF m 93 #[.val (.ref a0_), .val (.ref b12), .val (.ref b23), .val (.int 2)] [(.ref a0_), (.int 4), (.ref b84), (.ref b84)])) (fun target kt => ?_) ?_
  · refine XS.dup X115.here hx rfl (hb hby d3_90) rfl rfl ?_
    show Steps p.tables e below (T115.setTop (mkF m 91 _ [(.ref b84), (.ref b84)])) target
    refine XS.iconst X115.here hx rfl (hb hby d3_91) ?_
    show Steps p.tables e below (T115.setTop (mkF m 92 _ [(.int 4), (.ref b84), (.ref b84)])) target
    refine XS.aloadN X115.here hx rfl (hb hby d3_92) rfl rfl ?_
    exact kt
  have c120 := ((((((((((F_blockOf.ext E12).ext E23).other W37 (Or.inl ne42)).other W52 (Or.inl ne57)).other W67 (Or.inl ne42)).other W76 (Or.inl ne57)).ext E84).other W93 (Or.inl ne100)).other W103 (Or.inl ne100)).other W110 (Or.inl ne100)).other W115 (Or.inl ne100)
  obtain ⟨T121, X121, e121, st121⟩ := getF X115 hx hZ hown (host := "") (Or.inl (hw _ tw13)) Via.refl e115 c120 (g := (mkF m 93 #[.val (.ref a0_), .val (.ref b12), .val (.ref b23), .val (.int 2)] [(.ref a0_), (.int 4), (.ref b84), (.ref b84)])) rfl rfl (hb hby d3_93)
  refine Go.st st121 ?_
  show Go _ _ _ _ _ _ _ (T121.setTop (mkF m 96 _ [(.ref x_blockOf), (.int 4), (.ref b84), (.ref b84)]))
  obtain ⟨cl122, Ar122, q122, S122, M122, H122, G122⟩ := id V117
  have hin122 : ¬ ((4 : Int32) < 0 ∨ cl122.slots.size ≤ ((4 : Int32)).toNatClampNeg) := inb_of S122 ⟨by decide, by decide⟩
  have c123 := ((((((((((E_blockOf.ext E12).ext E23).wr W37).wr W52).wr W67).wr W76).ext E84).wr W93).wr W103).wr W110).wr W115
  obtain ⟨T122, h122, X122, e122, W122, st122⟩ := stR X121 hx hZ e121 Ar122 (j := (4 : Int32)) hin122 rfl (Sto.ofVA Ar122 q122 O'84 (Ins.self c123)) (g := (mkF m 96 #[.val (.ref a0_), .val (.ref b12), .val (.ref b23), .val (.int 2)] [(.ref x_blockOf), (.int 4), (.ref b84), (.ref b84)])) rfl rfl (hb hby d3_96)
  have V124 : Arv Z h122 b84 k84 (.array .int) (10 : Int32) [(.ref x_foldingStarts), (.ref x_decomposed), (.ref x_decompositionStarts), (.ref b12), (.ref x_blockOf), .null, .null, .null, .null, .null] .null := Arv.set Ar122 q122 S122 M122 H122 G122 rfl W122 4 rfl (Nat.le_of_ble_eq_true rfl)
  have K125 := K118.wr W122 (Or.inr sz86)
  have O126 := O119.wr W122 g87
  have N122 := Fr.snoc X122 N115 g87
  refine Go.st st122 ?_
  show Go _ _ _ _ _ _ _ (T122.setTop (mkF m 97 _ [(.ref b84)]))
  refine Go.st (t' := T122.setTop (mkF m 100 #[.val (.ref a0_), .val (.ref b12), .val (.ref b23), .val (.int 2)] [(.ref a0_), (.int 5), (.ref b84), (.ref b84)])) (fun target kt => ?_) ?_
  · refine XS.dup X122.here hx rfl (hb hby d3_97) rfl rfl ?_
    show Steps p.tables e below (T122.setTop (mkF m 98 _ [(.ref b84), (.ref b84)])) target
    refine XS.iconst X122.here hx rfl (hb hby d3_98) ?_
    show Steps p.tables e below (T122.setTop (mkF m 99 _ [(.int 5), (.ref b84), (.ref b84)])) target
    refine XS.aloadN X122.here hx rfl (hb hby d3_99) rfl rfl ?_
    exact kt
  have c127 := (((((((((((F_blocks.ext E12).ext E23).other W37 (Or.inl ne42)).other W52 (Or.inl ne57)).other W67 (Or.inl ne42)).other W76 (Or.inl ne57)).ext E84).other W93 (Or.inl ne100)).other W103 (Or.inl ne100)).other W110 (Or.inl ne100)).other W115 (Or.inl ne100)).other W122 (Or.inl ne100)
  obtain ⟨T128, X128, e128, st128⟩ := getF X122 hx hZ hown (host := "") (Or.inl (hw _ tw15)) Via.refl e122 c127 (g := (mkF m 100 #[.val (.ref a0_), .val (.ref b12), .val (.ref b23), .val (.int 2)] [(.ref a0_), (.int 5), (.ref b84), (.ref b84)])) rfl rfl (hb hby d3_100)
  refine Go.st st128 ?_
  show Go _ _ _ _ _ _ _ (T128.setTop (mkF m 103 _ [(.ref x_blocks), (.int 5), (.ref b84), (.ref b84)]))
  obtain ⟨cl129, Ar129, q129, S129, M129, H129, G129⟩ := id V124
  have hin129 : ¬ ((5 : Int32) < 0 ∨ cl129.slots.size ≤ ((5 : Int32)).toNatClampNeg) := inb_of S129 ⟨by decide, by decide⟩
  have c130 := (((((((((((E_blocks.ext E12).ext E23).wr W37).wr W52).wr W67).wr W76).ext E84).wr W93).wr W103).wr W110).wr W115).wr W122
  obtain ⟨T129, h129, X129, e129, W129, st129⟩ := stR X128 hx hZ e128 Ar129 (j := (5 : Int32)) hin129 rfl (Sto.ofVA Ar129 q129 O'84 (Ins.self c130)) (g := (mkF m 103 #[.val (.ref a0_), .val (.ref b12), .val (.ref b23), .val (.int 2)] [(.ref x_blocks), (.int 5), (.ref b84), (.ref b84)])) rfl rfl (hb hby d3_103)
  have V131 : Arv Z h129 b84 k84 (.array .int) (10 : Int32) [(.ref x_foldingStarts), (.ref x_decomposed), (.ref x_decompositionStarts), (.ref b12), (.ref x_blockOf), (.ref x_blocks), .null, .null, .null, .null] .null := Arv.set Ar129 q129 S129 M129 H129 G129 rfl W129 5 rfl (Nat.le_of_ble_eq_true rfl)
  have K132 := K125.wr W129 (Or.inr sz86)
  have O133 := O126.wr W129 g87
  have N129 := Fr.snoc X129 N122 g87
  refine Go.st st129 ?_
  show Go _ _ _ _ _ _ _ (T129.setTop (mkF m 104 _ [(.ref b84)]))
  refine Go.st (t' := T129.setTop (mkF m 108 #[.val (.ref a0_), .val (.ref b12), .val (.ref b23), .val (.int 2)] [(.ref a0_), (.int 6), (.ref b84), (.ref b84)])) (fun target kt => ?_) ?_
  · refine XS.dup X129.here hx rfl (hb hby d3_104) rfl rfl ?_
    show Steps p.tables e below (T129.setTop (mkF m 105 _ [(.ref b84), (.ref b84)])) target
    refine XS.bipush X129.here hx rfl (hb hby d3_105) ?_
    show Steps p.tables e below (T129.setTop (mkF m 107 _ [(.int 6), (.ref b84), (.ref b84)])) target
    refine XS.aloadN X129.here hx rfl (hb hby d3_107) rfl rfl ?_
    exact kt
  have c134 := ((((((((((((F_folded.ext E12).ext E23).other W37 (Or.inl ne42)).other W52 (Or.inl ne57)).other W67 (Or.inl ne42)).other W76 (Or.inl ne57)).ext E84).other W93 (Or.inl ne100)).other W103 (Or.inl ne100)).other W110 (Or.inl ne100)).other W115 (Or.inl ne100)).other W122 (Or.inl ne100)).other W129 (Or.inl ne100)
  obtain ⟨T135, X135, e135, st135⟩ := getF X129 hx hZ hown (host := "") (Or.inl (hw _ tw19)) Via.refl e129 c134 (g := (mkF m 108 #[.val (.ref a0_), .val (.ref b12), .val (.ref b23), .val (.int 2)] [(.ref a0_), (.int 6), (.ref b84), (.ref b84)])) rfl rfl (hb hby d3_108)
  refine Go.st st135 ?_
  show Go _ _ _ _ _ _ _ (T135.setTop (mkF m 111 _ [(.ref x_folded), (.int 6), (.ref b84), (.ref b84)]))
  obtain ⟨cl136, Ar136, q136, S136, M136, H136, G136⟩ := id V131
  have hin136 : ¬ ((6 : Int32) < 0 ∨ cl136.slots.size ≤ ((6 : Int32)).toNatClampNeg) := inb_of S136 ⟨by decide, by decide⟩
  have c137 := ((((((((((((E_folded.ext E12).ext E23).wr W37).wr W52).wr W67).wr W76).ext E84).wr W93).wr W103).wr W110).wr W115).wr W122).wr W129
  obtain ⟨T136, h136, X136, e136, W136, st136⟩ := stR X135 hx hZ e135 Ar136 (j := (6 : Int32)) hin136 rfl (Sto.ofVA Ar136 q136 O'84 (Ins.self c137)) (g := (mkF m 111 #[.val (.ref a0_), .val (.ref b12), .val (.ref b23), .val (.int 2)] [(.ref x_folded), (.int 6), (.ref b84), (.ref b84)])) rfl rfl (hb hby d3_111)
  have V138 : Arv Z h136 b84 k84 (.array .int) (10 : Int32) [(.ref x_foldingStarts), (.ref x_decomposed), (.ref x_decompositionStarts), (.ref b12), (.ref x_blockOf), (.ref x_blocks), (.ref x_folded), .null, .null, .null] .null := Arv.set Ar136 q136 S136 M136 H136 G136 rfl W136 6 rfl (Nat.le_of_ble_eq_true rfl)
  have K139 := K132.wr W136 (Or.inr sz86)
  have O140 := O133.wr W136 g87
  have N136 := Fr.snoc X136 N129 g87
  refine Go.st st136 ?_
  show Go _ _ _ _ _ _ _ (T136.setTop (mkF m 112 _ [(.ref b84)]))
  refine Go.st (t' := T136.setTop (mkF m 116 #[.val (.ref a0_), .val (.ref b12), .val (.ref b23), .val (.int 2)] [(.ref a0_), (.int 7), (.ref b84), (.ref b84)])) (fun target kt => ?_) ?_
  · refine XS.dup X136.here hx rfl (hb hby d3_112) rfl rfl ?_
    show Steps p.tables e below (T136.setTop (mkF m 113 _ [(.ref b84), (.ref b84)])) target
    refine XS.bipush X136.here hx rfl (hb hby d3_113) ?_
    show Steps p.tables e below (T136.setTop (mkF m 115 _ [(.int 7), (.ref b84), (.ref b84)])) target
    refine XS.aloadN X136.here hx rfl (hb hby d3_115) rfl rfl ?_
    exact kt
  have c141 := (((((((((((((F_decompositions.ext E12).ext E23).other W37 (Or.inl ne42)).other W52 (Or.inl ne57)).other W67 (Or.inl ne42)).other W76 (Or.inl ne57)).ext E84).other W93 (Or.inl ne100)).other W103 (Or.inl ne100)).other W110 (Or.inl ne100)).other W115 (Or.inl ne100)).other W122 (Or.inl ne100)).other W129 (Or.inl ne100)).other W136 (Or.inl ne100)
  obtain ⟨T142, X142, e142, st142⟩ := getF X136 hx hZ hown (host := "") (Or.inl (hw _ tw25)) Via.refl e136 c141 (g := (mkF m 116 #[.val (.ref a0_), .val (.ref b12), .val (.ref b23), .val (.int 2)] [(.ref a0_), (.int 7), (.ref b84), (.ref b84)])) rfl rfl (hb hby d3_116)
  refine Go.st st142 ?_
  show Go _ _ _ _ _ _ _ (T142.setTop (mkF m 119 _ [(.ref x_decompositions), (.int 7), (.ref b84), (.ref b84)]))
  obtain ⟨cl143, Ar143, q143, S143, M143, H143, G143⟩ := id V138
  have hin143 : ¬ ((7 : Int32) < 0 ∨ cl143.slots.size ≤ ((7 : Int32)).toNatClampNeg) := inb_of S143 ⟨by decide, by decide⟩
  have c144 := (((((((((((((E_decompositions.ext E12).ext E23).wr W37).wr W52).wr W67).wr W76).ext E84).wr W93).wr W103).wr W110).wr W115).wr W122).wr W129).wr W136
  obtain ⟨T143, h143, X143, e143, W143, st143⟩ := stR X142 hx hZ e142 Ar143 (j := (7 : Int32)) hin143 rfl (Sto.ofVA Ar143 q143 O'84 (Ins.self c144)) (g := (mkF m 119 #[.val (.ref a0_), .val (.ref b12), .val (.ref b23), .val (.int 2)] [(.ref x_decompositions), (.int 7), (.ref b84), (.ref b84)])) rfl rfl (hb hby d3_119)
  have V145 : Arv Z h143 b84 k84 (.array .int) (10 : Int32) [(.ref x_foldingStarts), (.ref x_decomposed), (.ref x_decompositionStarts), (.ref b12), (.ref x_blockOf), (.ref x_blocks), (.ref x_folded), (.ref x_decompositions), .null, .null] .null := Arv.set Ar143 q143 S143 M143 H143 G143 rfl W143 7 rfl (Nat.le_of_ble_eq_true rfl)
  have K146 := K139.wr W143 (Or.inr sz86)
  have O147 := O140.wr W143 g87
  have N143 := Fr.snoc X143 N136 g87
  refine Go.st st143 ?_
  show Go _ _ _ _ _ _ _ (T143.setTop (mkF m 120 _ [(.ref b84)]))
  refine Go.st (t' := T143.setTop (mkF m 124 #[.val (.ref a0_), .val (.ref b12), .val (.ref b23), .val (.int 2)] [(.ref b23), (.int 8), (.ref b84), (.ref b84)])) (fun target kt => ?_) ?_
  · refine XS.dup X143.here hx rfl (hb hby d3_120) rfl rfl ?_
    show Steps p.tables e below (T143.setTop (mkF m 121 _ [(.ref b84), (.ref b84)])) target
    refine XS.bipush X143.here hx rfl (hb hby d3_121) ?_
    show Steps p.tables e below (T143.setTop (mkF m 123 _ [(.int 8), (.ref b84), (.ref b84)])) target
    refine XS.aloadN X143.here hx rfl (hb hby d3_123) rfl rfl ?_
    exact kt
  obtain ⟨cl148, Ar148, q148, S148, M148, H148, G148⟩ := id V145
  have hin148 : ¬ ((8 : Int32) < 0 ∨ cl148.slots.size ≤ ((8 : Int32)).toNatClampNeg) := inb_of S148 ⟨by decide, by decide⟩
  have c149 := ((((((((((((B23.wr W37).wr W52).wr W67).wr W76).ext E84).wr W93).wr W103).wr W110).wr W115).wr W122).wr W129).wr W136).wr W143
  obtain ⟨T148, h148, X148, e148, W148, st148⟩ := stR X143 hx hZ e143 Ar148 (j := (8 : Int32)) hin148 rfl (Sto.ofVA Ar148 q148 O'84 (Ins.self c149)) (g := (mkF m 124 #[.val (.ref a0_), .val (.ref b12), .val (.ref b23), .val (.int 2)] [(.ref b23), (.int 8), (.ref b84), (.ref b84)])) rfl rfl (hb hby d3_124)
  have V150 : Arv Z h148 b84 k84 (.array .int) (10 : Int32) [(.ref x_foldingStarts), (.ref x_decomposed), (.ref x_decompositionStarts), (.ref b12), (.ref x_blockOf), (.ref x_blocks), (.ref x_folded), (.ref x_decompositions), (.ref b23), .null] .null := Arv.set Ar148 q148 S148 M148 H148 G148 rfl W148 8 rfl (Nat.le_of_ble_eq_true rfl)
  have K151 := K146.wr W148 (Or.inr sz86)
  have O152 := O147.wr W148 g87
  have N148 := Fr.snoc X148 N143 g87
  refine Go.st st148 ?_
  show Go _ _ _ _ _ _ _ (T148.setTop (mkF m 125 _ [(.ref b84)]))
  refine Go.st (t' := T148.setTop (mkF m 129 #[.val (.ref a0_), .val (.ref b12), .val (.ref b23), .val (.int 2)] [(.ref a0_), (.int 9), (.ref b84), (.ref b84)])) (fun target kt => ?_) ?_
  · refine XS.dup X148.here hx rfl (hb hby d3_125) rfl rfl ?_
    show Steps p.tables e below (T148.setTop (mkF m 126 _ [(.ref b84), (.ref b84)])) target
    refine XS.bipush X148.here hx rfl (hb hby d3_126) ?_
    show Steps p.tables e below (T148.setTop (mkF m 128 _ [(.int 9), (.ref b84), (.ref b84)])) target
    refine XS.aloadN X148.here hx rfl (hb hby d3_128) rfl rfl ?_
    exact kt
  have c153 := (((((((((((((((F_composites.ext E12).ext E23).other W37 (Or.inl ne42)).other W52 (Or.inl ne57)).other W67 (Or.inl ne42)).other W76 (Or.inl ne57)).ext E84).other W93 (Or.inl ne100)).other W103 (Or.inl ne100)).other W110 (Or.inl ne100)).other W115 (Or.inl ne100)).other W122 (Or.inl ne100)).other W129 (Or.inl ne100)).other W136 (Or.inl ne100)).other W143 (Or.inl ne100)).other W148 (Or.inl ne100)
  obtain ⟨T154, X154, e154, st154⟩ := getF X148 hx hZ hown (host := "") (Or.inl (hw _ tw29)) Via.refl e148 c153 (g := (mkF m 129 #[.val (.ref a0_), .val (.ref b12), .val (.ref b23), .val (.int 2)] [(.ref a0_), (.int 9), (.ref b84), (.ref b84)])) rfl rfl (hb hby d3_129)
  refine Go.st st154 ?_
  show Go _ _ _ _ _ _ _ (T154.setTop (mkF m 132 _ [(.ref x_composites), (.int 9), (.ref b84), (.ref b84)]))
  obtain ⟨cl155, Ar155, q155, S155, M155, H155, G155⟩ := id V150
  have hin155 : ¬ ((9 : Int32) < 0 ∨ cl155.slots.size ≤ ((9 : Int32)).toNatClampNeg) := inb_of S155 ⟨by decide, by decide⟩
  have c156 := (((((((((((((((E_composites.ext E12).ext E23).wr W37).wr W52).wr W67).wr W76).ext E84).wr W93).wr W103).wr W110).wr W115).wr W122).wr W129).wr W136).wr W143).wr W148
  obtain ⟨T155, h155, X155, e155, W155, st155⟩ := stR X154 hx hZ e154 Ar155 (j := (9 : Int32)) hin155 rfl (Sto.ofVA Ar155 q155 O'84 (Ins.self c156)) (g := (mkF m 132 #[.val (.ref a0_), .val (.ref b12), .val (.ref b23), .val (.int 2)] [(.ref x_composites), (.int 9), (.ref b84), (.ref b84)])) rfl rfl (hb hby d3_132)
  have V157 : Arv Z h155 b84 k84 (.array .int) (10 : Int32) [(.ref x_foldingStarts), (.ref x_decomposed), (.ref x_decompositionStarts), (.ref b12), (.ref x_blockOf), (.ref x_blocks), (.ref x_folded), (.ref x_decompositions), (.ref b23), (.ref x_composites)] .null := Arv.set Ar155 q155 S155 M155 H155 G155 rfl W155 9 rfl (Nat.le_of_ble_eq_true rfl)
  have K158 := K151.wr W155 (Or.inr sz86)
  have O159 := O152.wr W155 g87
  have N155 := Fr.snoc X155 N148 g87
  refine Go.st st155 ?_
  show Go _ _ _ _ _ _ _ (T155.setTop (mkF m 133 _ [(.ref b84)]))
  have o160 : b12 < b84 := Nat.lt_trans o49 o98
  have ne161 : b12 ≠ b84 := Nat.ne_of_lt o160
  have c162 := (((((((((((V68.other W76 ne50).ext E84).other W93 ne161).other W103 ne161).other W110 ne161).other W115 ne161).other W122 ne161).other W129 ne161).other W136 ne161).other W143 ne161).other W148 ne161).other W155 ne161
  have ne163 : b23 ≠ b84 := Nat.ne_of_lt o98
  have c164 := ((((((((((V77.ext E84).other W93 ne163).other W103 ne163).other W110 ne163).other W115 ne163).other W122 ne163).other W129 ne163).other W136 ne163).other W143 ne163).other W148 ne163).other W155 ne163
  refine Go.ret X155 (v := some (.ref b84)) (fun h => by rw [hret] at h; cases h) hlk (fun fs hr => retR X155 hx hret rfl rfl (hb hby d3_133) hr) ?_ (by decide) (by decide)
  show Q3_2 Z a0_ x_blockOf x_blocks x_foldingStarts x_folded x_decomposed x_decompositionStarts x_decompositions x_pairs x_composites kp_ k0_ k1_ h0 n0 _ T155.heap _
  rw [e155]
  exact ⟨b84, b12, b23, k12, k23, k84, rfl, N155, K158, c162, c164, V157⟩
theorem tw0 : (Jvm.Cond.constant "com/example/docstride/docstride/search/words/CodePointTablesArraysPinLaw" (7 : Nat) (2097151 : Int32)) ∈ tables_1 := List.mem_of_getElem? (i := 0) rfl
theorem tw1 : (Jvm.Cond.constantLong "com/example/docstride/docstride/search/words/CodePointTablesArraysPinLaw" (8 : Nat) (2097152 : Int64)) ∈ tables_1 := List.mem_of_getElem? (i := 1) rfl
theorem tw2 : (Jvm.Cond.arrayClass Jvm.ClassFile.FieldType.long) ∈ tables_1 := List.mem_of_getElem? (i := 2) rfl
theorem tw4 : (Jvm.Cond.classLink "com/example/docstride/docstride/search/words/CodePointTablesArraysPinLaw" (10 : Nat) "com/example/docstride/docstride/search/words/CodePointTables") ∈ tables_1 := List.mem_of_getElem? (i := 4) rfl
theorem tw6 : (Jvm.Cond.initialized "com/example/docstride/docstride/search/words/CodePointTables") ∈ tables_1 := List.mem_of_getElem? (i := 6) rfl
theorem tw7 : (Jvm.Cond.methodLink "com/example/docstride/docstride/search/words/CodePointTablesArraysPinLaw" (12 : Nat) ({ cls := "com/example/docstride/docstride/search/words/CodePointTables", name := "<init>", desc := "([I[I[I[I[I[I[I[J[I)V" } : Jvm.MethodName)) ∈ tables_1 := List.mem_of_getElem? (i := 7) rfl
theorem tw9 : (Jvm.Cond.code ({ cls := "com/example/docstride/docstride/search/words/CodePointTables", name := "<init>", desc := "([I[I[I[I[I[I[I[J[I)V" } : Jvm.MethodName) prog_71_method_1_code (10 : Nat) (Option.none : Option Jvm.ClassFile.FieldType)) ∈ tables_1 := List.mem_of_getElem? (i := 9) rfl
theorem pd0 : parseMethodDescriptor "([I[I[I[I[I[I[I[J[I)V" = some ⟨[(.array .int), (.array .int), (.array .int), (.array .int), (.array .int), (.array .int), (.array .int), (.array .long), (.array .int)], none⟩ := by decide +kernel
theorem tw8 : (Jvm.Cond.instanceMethod ({ cls := "com/example/docstride/docstride/search/words/CodePointTables", name := "<init>", desc := "([I[I[I[I[I[I[I[J[I)V" } : Jvm.MethodName)) ∈ tables_1 := List.mem_of_getElem? (i := 8) rfl
theorem tw31 : (Jvm.Cond.methodLink "com/example/docstride/docstride/search/words/CodePointTablesArraysPinLaw" (15 : Nat) ({ cls := "com/example/docstride/docstride/search/words/CodePointTables", name := "arrays", desc := "()[[I" } : Jvm.MethodName)) ∈ tables_1 := List.mem_of_getElem? (i := 31) rfl
theorem tw35 : (Jvm.Cond.code ({ cls := "com/example/docstride/docstride/search/words/CodePointTables", name := "arrays", desc := "()[[I" } : Jvm.MethodName) prog_71_method_6_code (4 : Nat) (Option.some (Jvm.ClassFile.FieldType.array (Jvm.ClassFile.FieldType.array Jvm.ClassFile.FieldType.int)))) ∈ tables_1 := List.mem_of_getElem? (i := 35) rfl
theorem pd1 : parseMethodDescriptor "()[[I" = some ⟨[], some (.array (.array .int))⟩ := by decide +kernel
theorem tw34 : (Jvm.Cond.selects "com/example/docstride/docstride/search/words/CodePointTables" ({ cls := "com/example/docstride/docstride/search/words/CodePointTables", name := "arrays", desc := "()[[I" } : Jvm.MethodName) ({ cls := "com/example/docstride/docstride/search/words/CodePointTables", name := "arrays", desc := "()[[I" } : Jvm.MethodName)) ∈ tables_1 := List.mem_of_getElem? (i := 34) rfl
theorem tw32 : (Jvm.Cond.declares ({ cls := "com/example/docstride/docstride/search/words/CodePointTables", name := "arrays", desc := "()[[I" } : Jvm.MethodName)) ∈ tables_1 := List.mem_of_getElem? (i := 32) rfl
theorem tw33 : (Jvm.Cond.instanceMethod ({ cls := "com/example/docstride/docstride/search/words/CodePointTables", name := "arrays", desc := "()[[I" } : Jvm.MethodName)) ∈ tables_1 := List.mem_of_getElem? (i := 33) rfl
theorem ef0 (m : MethodId) (x0 : Int32) (x1 : Int32) (x2 : Int32) (x3 : Int32) (x4 : Int32) : entryFrame m #[(.int x0), (.int x1), (.int x2), (.int x3), (.int x4)] maxLocals = mkF m 0 #[.val (.int x0), .val (.int x1), .val (.int x2), .val (.int x3), .val (.int x4), .unset, .unset, .unset, .unset, .unset, .unset, .unset, .unset, .unset, .unset, .unset, .unset, .unset, .unset, .unset, .unset, .unset, .unset, .unset, .unset, .unset] [] := by first | (simp [entryFrame, mkF, argsToLocals, Value.category, maxLocals]; done) | rfl
def Q0 (Z : State) (p0 : Int32) (p1 : Int32) (p2 : Int32) (p3 : Int32) (p4 : Int32) (h0 : Heap) (n0 : Nat) (v : Option Value) (h : Heap) (L : List Loc) : Prop := v = some (.int 1) ∧ Fr n0 L ∧ Keep h0 h []
theorem pn121 : plainName "com/example/docstride/docstride/search/words/CodePointTablesArraysPinLaw" = true := by first | (simp [plainName, overriddenIn]; done) | decide +kernel
theorem rm0 (l : Launch) (Z : State) (a0 : Array Value) (hw : ∀ d ∈ tables_1, d.before a0 Z = true) (ws : List Jvm.Cond) (p0 : Int32) (p1 : Int32) (p2 : Int32) (p3 : Int32) (p4 : Int32) (h0 : Heap) (n0 : Nat) (Z0 : n0 ≤ h0.size) (O0 : Old Z n0 h0) :
    Met l Z ws x code maxLocals ret room_1 #[(.int p0), (.int p1), (.int p2), (.int p3), (.int p4)] h0 (Q0 Z p0 p1 p2 p3 p4 h0 n0) := by
  refine Met.enter (L0 := #[.val (.int p0), .val (.int p1), .val (.int p2), .val (.int p3), .val (.int p4), .unset, .unset, .unset, .unset, .unset, .unset, .unset, .unset, .unset, .unset, .unset, .unset, .unset, .unset, .unset, .unset, .unset, .unset, .unset, .unset, .unset]) (plainFor_of_name pn121) (fun m => ef0 m p0 p1 p2 p3 p4) ?_
  intro p e s m below meth c s₁ hx hby hml hown hnm hret hlk hZ X0 e0
  have N0 := Fr.nil n0
  have K0 : Keep h0 h0 [] := Keep.refl h0 _
  refine Go.st (t' := s₁.setTop (mkF m 36 #[.val (.int p0), .val (.int p1), .val (.int p2), .val (.int p3), .val (.int p4), .val (.int (p1 &&& (2097151 : Int32))), .val (.int (p3 &&& (2097151 : Int32))), .val (.long (((p0.toInt64) * (2097152 : Int64)) + ((p1 &&& (2097151 : Int32)).toInt64))), .second, .val (.long (((p2.toInt64) * (2097152 : Int64)) + ((p3 &&& (2097151 : Int32)).toInt64))), .second, .unset, .unset, .unset, .unset, .unset, .unset, .unset, .unset, .unset, .unset, .unset, .unset, .unset, .unset, .unset] [])) (fun target kt => ?_) ?_
  · refine XS.iloadN X0.here hx rfl (hb hby at_0) rfl ?_
    show Steps p.tables e below (s₁.setTop (mkF m 1 _ [(.int p1)])) target
    refine X0.ldcInt hx hown (mvT hZ (hw _ tw0)) (g := (mkF m 1 #[.val (.int p0), .val (.int p1), .val (.int p2), .val (.int p3), .val (.int p4), .unset, .unset, .unset, .unset, .unset, .unset, .unset, .unset, .unset, .unset, .unset, .unset, .unset, .unset, .unset, .unset, .unset, .unset, .unset, .unset, .unset] [(.int p1)])) rfl (hb hby at_1) _ ?_
    show Steps p.tables e below (s₁.setTop (mkF m 3 _ [(.int 2097151), (.int p1)])) target
    refine XS.iand X0.here hx rfl (hb hby at_3) rfl ?_
    show Steps p.tables e below (s₁.setTop (mkF m 4 _ [(.int (p1 &&& (2097151 : Int32)))])) target
    refine XS.istore X0.here hx rfl (hb hby at_4) rfl (l' := #[.val (.int p0), .val (.int p1), .val (.int p2), .val (.int p3), .val (.int p4), .val (.int (p1 &&& (2097151 : Int32))), .unset, .unset, .unset, .unset, .unset, .unset, .unset, .unset, .unset, .unset, .unset, .unset, .unset, .unset, .unset, .unset, .unset, .unset, .unset, .unset]) rfl ?_
    show Steps p.tables e below (s₁.setTop (mkF m 6 _ [])) target
    refine XS.iloadN X0.here hx rfl (hb hby at_6) rfl ?_
    show Steps p.tables e below (s₁.setTop (mkF m 7 _ [(.int p3)])) target
    refine X0.ldcInt hx hown (mvT hZ (hw _ tw0)) (g := (mkF m 7 #[.val (.int p0), .val (.int p1), .val (.int p2), .val (.int p3), .val (.int p4), .val (.int (p1 &&& (2097151 : Int32))), .unset, .unset, .unset, .unset, .unset, .unset, .unset, .unset, .unset, .unset, .unset, .unset, .unset, .unset, .unset, .unset, .unset, .unset, .unset, .unset] [(.int p3)])) rfl (hb hby at_7) _ ?_
    show Steps p.tables e below (s₁.setTop (mkF m 9 _ [(.int 2097151), (.int p3)])) target
    refine XS.iand X0.here hx rfl (hb hby at_9) rfl ?_
    show Steps p.tables e below (s₁.setTop (mkF m 10 _ [(.int (p3 &&& (2097151 : Int32)))])) target
    refine XS.istore X0.here hx rfl (hb hby at_10) rfl (l' := #[.val (.int p0), .val (.int p1), .val (.int p2), .val (.int p3), .val (.int p4), .val (.int (p1 &&& (2097151 : Int32))), .val (.int (p3 &&& (2097151 : Int32))), .unset, .unset, .unset, .unset, .unset, .unset, .unset, .unset, .unset, .unset, .unset, .unset, .unset, .unset, .unset, .unset, .unset, .unset, .unset]) rfl ?_
    show Steps p.tables e below (s₁.setTop (mkF m 12 _ [])) target
    refine XS.iloadN X0.here hx rfl (hb hby at_12) rfl ?_
    show Steps p.tables e below (s₁.setTop (mkF m 13 _ [(.int p0)])) target
    refine XS.i2l X0.here hx rfl (hb hby at_13) rfl ?_
    show Steps p.tables e below (s₁.setTop (mkF m 14 _ [(.long (p0.toInt64))])) target
    refine X0.ldc2Long hx hown (mvT hZ (hw _ tw1)) (g := (mkF m 14 #[.val (.int p0), .val (.int p1), .val (.int p2), .val (.int p3), .val (.int p4), .val (.int (p1 &&& (2097151 : Int32))), .val (.int (p3 &&& (2097151 : Int32))), .unset, .unset, .unset, .unset, .unset, .unset, .unset, .unset, .unset, .unset, .unset, .unset, .unset, .unset, .unset, .unset, .unset, .unset, .unset] [(.long (p0.toInt64))])) rfl (hb hby at_14) _ ?_
    show Steps p.tables e below (s₁.setTop (mkF m 17 _ [(.long (2097152 : Int64)), (.long (p0.toInt64))])) target
    refine XS.lmul X0.here hx rfl (hb hby at_17) rfl ?_
    show Steps p.tables e below (s₁.setTop (mkF m 18 _ [(.long ((p0.toInt64) * (2097152 : Int64)))])) target
    refine XS.iload X0.here hx rfl (hb hby at_18) rfl ?_
    show Steps p.tables e below (s₁.setTop (mkF m 20 _ [(.int (p1 &&& (2097151 : Int32))), (.long ((p0.toInt64) * (2097152 : Int64)))])) target
    refine XS.i2l X0.here hx rfl (hb hby at_20) rfl ?_
    show Steps p.tables e below (s₁.setTop (mkF m 21 _ [(.long ((p1 &&& (2097151 : Int32)).toInt64)), (.long ((p0.toInt64) * (2097152 : Int64)))])) target
    refine XS.ladd X0.here hx rfl (hb hby at_21) rfl ?_
    show Steps p.tables e below (s₁.setTop (mkF m 22 _ [(.long (((p0.toInt64) * (2097152 : Int64)) + ((p1 &&& (2097151 : Int32)).toInt64)))])) target
    refine XS.lstore X0.here hx rfl (hb hby at_22) rfl (l' := #[.val (.int p0), .val (.int p1), .val (.int p2), .val (.int p3), .val (.int p4), .val (.int (p1 &&& (2097151 : Int32))), .val (.int (p3 &&& (2097151 : Int32))), .val (.long (((p0.toInt64) * (2097152 : Int64)) + ((p1 &&& (2097151 : Int32)).toInt64))), .second, .unset, .unset, .unset, .unset, .unset, .unset, .unset, .unset, .unset, .unset, .unset, .unset, .unset, .unset, .unset, .unset, .unset]) rfl ?_
    show Steps p.tables e below (s₁.setTop (mkF m 24 _ [])) target
    refine XS.iloadN X0.here hx rfl (hb hby at_24) rfl ?_
    show Steps p.tables e below (s₁.setTop (mkF m 25 _ [(.int p2)])) target
    refine XS.i2l X0.here hx rfl (hb hby at_25) rfl ?_
    show Steps p.tables e below (s₁.setTop (mkF m 26 _ [(.long (p2.toInt64))])) target
    refine X0.ldc2Long hx hown (mvT hZ (hw _ tw1)) (g := (mkF m 26 #[.val (.int p0), .val (.int p1), .val (.int p2), .val (.int p3), .val (.int p4), .val (.int (p1 &&& (2097151 : Int32))), .val (.int (p3 &&& (2097151 : Int32))), .val (.long (((p0.toInt64) * (2097152 : Int64)) + ((p1 &&& (2097151 : Int32)).toInt64))), .second, .unset, .unset, .unset, .unset, .unset, .unset, .unset, .unset, .unset, .unset, .unset, .unset, .unset, .unset, .unset, .unset, .unset] [(.long (p2.toInt64))])) rfl (hb hby at_26) _ ?_
    show Steps p.tables e below (s₁.setTop (mkF m 29 _ [(.long (2097152 : Int64)), (.long (p2.toInt64))])) target
    refine XS.lmul X0.here hx rfl (hb hby at_29) rfl ?_
    show Steps p.tables e below (s₁.setTop (mkF m 30 _ [(.long ((p2.toInt64) * (2097152 : Int64)))])) target
    refine XS.iload X0.here hx rfl (hb hby at_30) rfl ?_
    show Steps p.tables e below (s₁.setTop (mkF m 32 _ [(.int (p3 &&& (2097151 : Int32))), (.long ((p2.toInt64) * (2097152 : Int64)))])) target
    refine XS.i2l X0.here hx rfl (hb hby at_32) rfl ?_
    show Steps p.tables e below (s₁.setTop (mkF m 33 _ [(.long ((p3 &&& (2097151 : Int32)).toInt64)), (.long ((p2.toInt64) * (2097152 : Int64)))])) target
    refine XS.ladd X0.here hx rfl (hb hby at_33) rfl ?_
    show Steps p.tables e below (s₁.setTop (mkF m 34 _ [(.long (((p2.toInt64) * (2097152 : Int64)) + ((p3 &&& (2097151 : Int32)).toInt64)))])) target
    refine XS.lstore X0.here hx rfl (hb hby at_34) rfl (l' := #[.val (.int p0), .val (.int p1), .val (.int p2), .val (.int p3), .val (.int p4), .val (.int (p1 &&& (2097151 : Int32))), .val (.int (p3 &&& (2097151 : Int32))), .val (.long (((p0.toInt64) * (2097152 : Int64)) + ((p1 &&& (2097151 : Int32)).toInt64))), .second, .val (.long (((p2.toInt64) * (2097152 : Int64)) + ((p3 &&& (2097151 : Int32)).toInt64))), .second, .unset, .unset, .unset, .unset, .unset, .unset, .unset, .unset, .unset, .unset, .unset, .unset, .unset, .unset, .unset]) rfl ?_
    exact kt
  obtain ⟨k1, h_k1⟩ : ∃ z, z = (((p0.toInt64) * (2097152 : Int64)) + ((p1 &&& (2097151 : Int32)).toInt64)) := ⟨_, rfl⟩
  rw [← h_k1]
  show Go _ _ _ _ _ _ _ (s₁.setTop (mkF m 36 _ []))
  obtain ⟨k2, h_k2⟩ : ∃ z, z = (((p2.toInt64) * (2097152 : Int64)) + ((p3 &&& (2097151 : Int32)).toInt64)) := ⟨_, rfl⟩
  rw [← h_k2]
  show Go _ _ _ _ _ _ _ (s₁.setTop (mkF m 36 _ []))
  obtain ⟨t1, h_t1⟩ : ∃ z, z = (p1 &&& (2097151 : Int32)) := ⟨_, rfl⟩
  rw [← h_t1]
  show Go _ _ _ _ _ _ _ (s₁.setTop (mkF m 36 _ []))
  obtain ⟨t2, h_t2⟩ : ∃ z, z = (p3 &&& (2097151 : Int32)) := ⟨_, rfl⟩
  rw [← h_t2]
  show Go _ _ _ _ _ _ _ (s₁.setTop (mkF m 36 _ []))
  refine Go.st (t' := s₁.setTop (mkF m 40 #[.val (.int p0), .val (.int p1), .val (.int p2), .val (.int p3), .val (.int p4), .val (.int t1), .val (.int t2), .val (.long k1), .second, .val (.long k2), .second, .unset, .unset, .unset, .unset, .unset, .unset, .unset, .unset, .unset, .unset, .unset, .unset, .unset, .unset, .unset] [(.int (p4 &&& (1 : Int32)))])) (fun target kt => ?_) ?_
  · refine XS.iload X0.here hx rfl (hb hby at_36) rfl ?_
    show Steps p.tables e below (s₁.setTop (mkF m 38 _ [(.int p4)])) target
    refine XS.iconst X0.here hx rfl (hb hby at_38) ?_
    show Steps p.tables e below (s₁.setTop (mkF m 39 _ [(.int 1), (.int p4)])) target
    refine XS.iand X0.here hx rfl (hb hby at_39) rfl ?_
    exact kt
  rcases Classical.em ((p4 &&& (1 : Int32)) = (0 : Int32)) with hc10 | hc10
  · refine Go.st (t' := s₁.setTop (mkF m 62 #[.val (.int p0), .val (.int p1), .val (.int p2), .val (.int p3), .val (.int p4), .val (.int t1), .val (.int t2), .val (.long k1), .second, .val (.long k2), .second, .val (.int 0), .unset, .unset, .unset, .unset, .unset, .unset, .unset, .unset, .unset, .unset, .unset, .unset, .unset, .unset] [(.int 2)])) (fun target kt => ?_) ?_
    · refine XS.ifYes X0.here hx rfl (pc0 := 40) (pc' := 47) rfl (hb hby at_40) rfl ((if0 _ _).trans (teq hc10).1) (by decide) (by decide) ?_
      show Steps p.tables e below (s₁.setTop (mkF m 47 _ [])) target
      refine XS.iconst X0.here hx rfl (hb hby at_47) ?_
      show Steps p.tables e below (s₁.setTop (mkF m 48 _ [(.int 0)])) target
      refine XS.istore X0.here hx rfl (hb hby at_48) rfl (l' := #[.val (.int p0), .val (.int p1), .val (.int p2), .val (.int p3), .val (.int p4), .val (.int t1), .val (.int t2), .val (.long k1), .second, .val (.long k2), .second, .val (.int 0), .unset, .unset, .unset, .unset, .unset, .unset, .unset, .unset, .unset, .unset, .unset, .unset, .unset, .unset]) rfl ?_
      show Steps p.tables e below (s₁.setTop (mkF m 50 _ [])) target
      refine XS.iload X0.here hx rfl (hb hby at_50) rfl ?_
      show Steps p.tables e below (s₁.setTop (mkF m 52 _ [(.int 0)])) target
      refine XS.ifYes X0.here hx rfl (pc0 := 52) (pc' := 61) rfl (hb hby at_52) rfl ((if0 _ _).trans (teq (by decide : (0 : Int32) = (0 : Int32))).1) (by decide) (by decide) ?_
      show Steps p.tables e below (s₁.setTop (mkF m 61 _ [])) target
      refine XS.iconst X0.here hx rfl (hb hby at_61) ?_
      exact kt
    obtain ⟨T11, h11, k11, X11, e11, E11, A11, B11, st11⟩ := newPE (aty := .long) X0 hx hZ (hw _ tw2) e0 (g := (mkF m 62 #[.val (.int p0), .val (.int p1), .val (.int p2), .val (.int p3), .val (.int p4), .val (.int t1), .val (.int t2), .val (.long k1), .second, .val (.long k2), .second, .val (.int 0), .unset, .unset, .unset, .unset, .unset, .unset, .unset, .unset, .unset, .unset, .unset, .unset, .unset, .unset] [(.int 2)])) rfl (hb hby at_62) rfl (by decide) (cap := 2) (by decide) (by decide) (by decide) (by decide) (ad := "[J") (by decide)
    obtain ⟨b11, g11⟩ : ∃ z, z = h0.size := ⟨_, rfl⟩
    rw [← g11] at A11 B11 st11
    have lb12 : h0.size ≤ b11 := Nat.le_of_eq g11.symm
    have sz13 : h0.size ≤ b11 := Nat.le_trans K0.1 lb12
    have g14 : n0 ≤ b11 := Nat.le_trans Z0 sz13
    have K15 := K0.ext E11
    have O16 := O0.ext E11
    have V17 : Arv Z h11 b11 k11 .long (2 : Int32) [(.long (0 : Int64)), (.long (0 : Int64))] (.long (0 : Int64)) := (Arv.new A11 (by decide)).pad (pad_rep [] (.long (0 : Int64)) 2)
    refine Go.st st11 ?_
    show Go _ _ _ _ _ _ _ (T11.setTop (mkF m 64 _ [(.ref b11)]))
    refine Go.st (t' := T11.setTop (mkF m 68 #[.val (.int p0), .val (.int p1), .val (.int p2), .val (.int p3), .val (.int p4), .val (.int t1), .val (.int t2), .val (.long k1), .second, .val (.long k2), .second, .val (.int 0), .unset, .unset, .unset, .unset, .unset, .unset, .unset, .unset, .unset, .unset, .unset, .unset, .unset, .unset] [(.long k1), (.int 0), (.ref b11), (.ref b11)])) (fun target kt => ?_) ?_
    · refine XS.dup X11.here hx rfl (hb hby at_64) rfl rfl ?_
      show Steps p.tables e below (T11.setTop (mkF m 65 _ [(.ref b11), (.ref b11)])) target
      refine XS.iconst X11.here hx rfl (hb hby at_65) ?_
      show Steps p.tables e below (T11.setTop (mkF m 66 _ [(.int 0), (.ref b11), (.ref b11)])) target
      refine XS.lload X11.here hx rfl (hb hby at_66) rfl ?_
      exact kt
    obtain ⟨cl18, Ar18, q18, S18, M18, H18, G18⟩ := id V17
    have hin18 : ¬ ((0 : Int32) < 0 ∨ cl18.slots.size ≤ ((0 : Int32)).toNatClampNeg) := inb_of S18 ⟨by decide, by decide⟩
    obtain ⟨T18, h18, X18, e18, W18, st18⟩ := stJ X11 hx hZ e11 Ar18 (j := (0 : Int32)) hin18 (g := (mkF m 68 #[.val (.int p0), .val (.int p1), .val (.int p2), .val (.int p3), .val (.int p4), .val (.int t1), .val (.int t2), .val (.long k1), .second, .val (.long k2), .second, .val (.int 0), .unset, .unset, .unset, .unset, .unset, .unset, .unset, .unset, .unset, .unset, .unset, .unset, .unset, .unset] [(.long k1), (.int 0), (.ref b11), (.ref b11)])) rfl rfl (hb hby at_68)
    have V19 : Arv Z h18 b11 k11 .long (2 : Int32) [(.long k1), (.long (0 : Int64))] (.long (0 : Int64)) := Arv.set Ar18 q18 S18 M18 H18 G18 rfl W18 0 rfl (Nat.le_of_ble_eq_true rfl)
    have K20 := K15.wr W18 (Or.inr sz13)
    have O21 := O16.wr W18 g14
    have N18 := Fr.snoc X18 N0 g14
    refine Go.st st18 ?_
    show Go _ _ _ _ _ _ _ (T18.setTop (mkF m 69 _ [(.ref b11)]))
    refine Go.st (t' := T18.setTop (mkF m 73 #[.val (.int p0), .val (.int p1), .val (.int p2), .val (.int p3), .val (.int p4), .val (.int t1), .val (.int t2), .val (.long k1), .second, .val (.long k2), .second, .val (.int 0), .unset, .unset, .unset, .unset, .unset, .unset, .unset, .unset, .unset, .unset, .unset, .unset, .unset, .unset] [(.long k2), (.int 1), (.ref b11), (.ref b11)])) (fun target kt => ?_) ?_
    · refine XS.dup X18.here hx rfl (hb hby at_69) rfl rfl ?_
      show Steps p.tables e below (T18.setTop (mkF m 70 _ [(.ref b11), (.ref b11)])) target
      refine XS.iconst X18.here hx rfl (hb hby at_70) ?_
      show Steps p.tables e below (T18.setTop (mkF m 71 _ [(.int 1), (.ref b11), (.ref b11)])) target
      refine XS.lload X18.here hx rfl (hb hby at_71) rfl ?_
      exact kt
    obtain ⟨cl22, Ar22, q22, S22, M22, H22, G22⟩ := id V19
    have hin22 : ¬ ((1 : Int32) < 0 ∨ cl22.slots.size ≤ ((1 : Int32)).toNatClampNeg) := inb_of S22 ⟨by decide, by decide⟩
    obtain ⟨T22, h22, X22, e22, W22, st22⟩ := stJ X18 hx hZ e18 Ar22 (j := (1 : Int32)) hin22 (g := (mkF m 73 #[.val (.int p0), .val (.int p1), .val (.int p2), .val (.int p3), .val (.int p4), .val (.int t1), .val (.int t2), .val (.long k1), .second, .val (.long k2), .second, .val (.int 0), .unset, .unset, .unset, .unset, .unset, .unset, .unset, .unset, .unset, .unset, .unset, .unset, .unset, .unset] [(.long k2), (.int 1), (.ref b11), (.ref b11)])) rfl rfl (hb hby at_73)
    have V23 : Arv Z h22 b11 k11 .long (2 : Int32) [(.long k1), (.long k2)] (.long (0 : Int64)) := Arv.set Ar22 q22 S22 M22 H22 G22 rfl W22 1 rfl (Nat.le_of_ble_eq_true rfl)
    have K24 := K20.wr W22 (Or.inr sz13)
    have O25 := O21.wr W22 g14
    have N22 := Fr.snoc X22 N18 g14
    refine Go.st st22 ?_
    show Go _ _ _ _ _ _ _ (T22.setTop (mkF m 74 _ [(.ref b11)]))
    refine Go.st (t' := T22.setTop (mkF m 77 #[.val (.int p0), .val (.int p1), .val (.int p2), .val (.int p3), .val (.int p4), .val (.int t1), .val (.int t2), .val (.long k1), .second, .val (.long k2), .second, .val (.int 0), .val (.ref b11), .unset, .unset, .unset, .unset, .unset, .unset, .unset, .unset, .unset, .unset, .unset, .unset, .unset] [(.int 1)])) (fun target kt => ?_) ?_
    · refine XS.astore X22.here hx rfl (hb hby at_74) rfl rfl (l' := #[.val (.int p0), .val (.int p1), .val (.int p2), .val (.int p3), .val (.int p4), .val (.int t1), .val (.int t2), .val (.long k1), .second, .val (.long k2), .second, .val (.int 0), .val (.ref b11), .unset, .unset, .unset, .unset, .unset, .unset, .unset, .unset, .unset, .unset, .unset, .unset, .unset]) rfl ?_
      show Steps p.tables e below (T22.setTop (mkF m 76 _ [])) target
      refine XS.iconst X22.here hx rfl (hb hby at_76) ?_
      exact kt
    obtain ⟨T26, h26, k26, X26, e26, E26, A26, B26, st26⟩ := newPE (aty := .int) X22 hx hZ (hw _ tw3) e22 (g := (mkF m 77 #[.val (.int p0), .val (.int p1), .val (.int p2), .val (.int p3), .val (.int p4), .val (.int t1), .val (.int t2), .val (.long k1), .second, .val (.long k2), .second, .val (.int 0), .val (.ref b11), .unset, .unset, .unset, .unset, .unset, .unset, .unset, .unset, .unset, .unset, .unset, .unset, .unset] [(.int 1)])) rfl (hb hby at_77) rfl (by decide) (cap := 1) (by decide) (by decide) (by decide) (by decide) (ad := "[I") (by decide)
    obtain ⟨b26, g26⟩ : ∃ z, z = h22.size := ⟨_, rfl⟩
    rw [← g26] at A26 B26 st26
    have lb27 : h22.size ≤ b26 := Nat.le_of_eq g26.symm
    have sz28 : h0.size ≤ b26 := Nat.le_trans K24.1 lb27
    have g29 : n0 ≤ b26 := Nat.le_trans Z0 sz28
    have K30 := K24.ext E26
    have O31 := O25.ext E26
    have V32 : Arv Z h26 b26 k26 .int (1 : Int32) [(.int 0)] (.int 0) := (Arv.new A26 (by decide)).pad (pad_rep [] (.int 0) 1)
    refine Go.st st26 ?_
    show Go _ _ _ _ _ _ _ (T26.setTop (mkF m 79 _ [(.ref b26)]))
    refine Go.st (t' := T26.setTop (mkF m 82 #[.val (.int p0), .val (.int p1), .val (.int p2), .val (.int p3), .val (.int p4), .val (.int t1), .val (.int t2), .val (.long k1), .second, .val (.long k2), .second, .val (.int 0), .val (.ref b11), .unset, .unset, .unset, .unset, .unset, .unset, .unset, .unset, .unset, .unset, .unset, .unset, .unset] [(.int 1), (.int 0), (.ref b26), (.ref b26)])) (fun target kt => ?_) ?_
    · refine XS.dup X26.here hx rfl (hb hby at_79) rfl rfl ?_
      show Steps p.tables e below (T26.setTop (mkF m 80 _ [(.ref b26), (.ref b26)])) target
      refine XS.iconst X26.here hx rfl (hb hby at_80) ?_
      show Steps p.tables e below (T26.setTop (mkF m 81 _ [(.int 0), (.ref b26), (.ref b26)])) target
      refine XS.iconst X26.here hx rfl (hb hby at_81) ?_
      exact kt
    obtain ⟨cl33, Ar33, q33, S33, M33, H33, G33⟩ := id V32
    have hin33 : ¬ ((0 : Int32) < 0 ∨ cl33.slots.size ≤ ((0 : Int32)).toNatClampNeg) := inb_of S33 ⟨by decide, by decide⟩
    obtain ⟨T33, h33, X33, e33, W33, st33⟩ := stI X26 hx hZ e26 Ar33 (j := (0 : Int32)) hin33 (g := (mkF m 82 #[.val (.int p0), .val (.int p1), .val (.int p2), .val (.int p3), .val (.int p4), .val (.int t1), .val (.int t2), .val (.long k1), .second, .val (.long k2), .second, .val (.int 0), .val (.ref b11), .unset, .unset, .unset, .unset, .unset, .unset, .unset, .unset, .unset, .unset, .unset, .unset, .unset] [(.int 1), (.int 0), (.ref b26), (.ref b26)])) rfl rfl (hb hby at_82)
    have V34 : Arv Z h33 b26 k26 .int (1 : Int32) [(.int 1)] (.int 0) := Arv.set Ar33 q33 S33 M33 H33 G33 rfl W33 0 rfl (Nat.le_of_ble_eq_true rfl)
    have K35 := K30.wr W33 (Or.inr sz28)
    have O36 := O31.wr W33 g29
    have N33 := Fr.snoc X33 N22 g29
    refine Go.st st33 ?_
    show Go _ _ _ _ _ _ _ (T33.setTop (mkF m 83 _ [(.ref b26)]))
    refine Go.st (t' := T33.setTop (mkF m 86 #[.val (.int p0), .val (.int p1), .val (.int p2), .val (.int p3), .val (.int p4), .val (.int t1), .val (.int t2), .val (.long k1), .second, .val (.long k2), .second, .val (.int 0), .val (.ref b11), .val (.ref b26), .unset, .unset, .unset, .unset, .unset, .unset, .unset, .unset, .unset, .unset, .unset, .unset] [(.int 1)])) (fun target kt => ?_) ?_
    · refine XS.astore X33.here hx rfl (hb hby at_83) rfl rfl (l' := #[.val (.int p0), .val (.int p1), .val (.int p2), .val (.int p3), .val (.int p4), .val (.int t1), .val (.int t2), .val (.long k1), .second, .val (.long k2), .second, .val (.int 0), .val (.ref b11), .val (.ref b26), .unset, .unset, .unset, .unset, .unset, .unset, .unset, .unset, .unset, .unset, .unset, .unset]) rfl ?_
      show Steps p.tables e below (T33.setTop (mkF m 85 _ [])) target
      refine XS.iconst X33.here hx rfl (hb hby at_85) ?_
      exact kt
    obtain ⟨T37, h37, k37, X37, e37, E37, A37, B37, st37⟩ := newPE (aty := .int) X33 hx hZ (hw _ tw3) e33 (g := (mkF m 86 #[.val (.int p0), .val (.int p1), .val (.int p2), .val (.int p3), .val (.int p4), .val (.int t1), .val (.int t2), .val (.long k1), .second, .val (.long k2), .second, .val (.int 0), .val (.ref b11), .val (.ref b26), .unset, .unset, .unset, .unset, .unset, .unset, .unset, .unset, .unset, .unset, .unset, .unset] [(.int 1)])) rfl (hb hby at_86) rfl (by decide) (cap := 1) (by decide) (by decide) (by decide) (by decide) (ad := "[I") (by decide)
    obtain ⟨b37, g37⟩ : ∃ z, z = h33.size := ⟨_, rfl⟩
    rw [← g37] at A37 B37 st37
    have lb38 : h33.size ≤ b37 := Nat.le_of_eq g37.symm
    have sz39 : h0.size ≤ b37 := Nat.le_trans K35.1 lb38
    have g40 : n0 ≤ b37 := Nat.le_trans Z0 sz39
    have K41 := K35.ext E37
    have O42 := O36.ext E37
    have V43 : Arv Z h37 b37 k37 .int (1 : Int32) [(.int 0)] (.int 0) := (Arv.new A37 (by decide)).pad (pad_rep [] (.int 0) 1)
    refine Go.st st37 ?_
    show Go _ _ _ _ _ _ _ (T37.setTop (mkF m 88 _ [(.ref b37)]))
    refine Go.st (t' := T37.setTop (mkF m 91 #[.val (.int p0), .val (.int p1), .val (.int p2), .val (.int p3), .val (.int p4), .val (.int t1), .val (.int t2), .val (.long k1), .second, .val (.long k2), .second, .val (.int 0), .val (.ref b11), .val (.ref b26), .unset, .unset, .unset, .unset, .unset, .unset, .unset, .unset, .unset, .unset, .unset, .unset] [(.int 2), (.int 0), (.ref b37), (.ref b37)])) (fun target kt => ?_) ?_
    · refine XS.dup X37.here hx rfl (hb hby at_88) rfl rfl ?_
      show Steps p.tables e below (T37.setTop (mkF m 89 _ [(.ref b37), (.ref b37)])) target
      refine XS.iconst X37.here hx rfl (hb hby at_89) ?_
      show Steps p.tables e below (T37.setTop (mkF m 90 _ [(.int 0), (.ref b37), (.ref b37)])) target
      refine XS.iconst X37.here hx rfl (hb hby at_90) ?_
      exact kt
    obtain ⟨cl44, Ar44, q44, S44, M44, H44, G44⟩ := id V43
    have hin44 : ¬ ((0 : Int32) < 0 ∨ cl44.slots.size ≤ ((0 : Int32)).toNatClampNeg) := inb_of S44 ⟨by decide, by decide⟩
    obtain ⟨T44, h44, X44, e44, W44, st44⟩ := stI X37 hx hZ e37 Ar44 (j := (0 : Int32)) hin44 (g := (mkF m 91 #[.val (.int p0), .val (.int p1), .val (.int p2), .val (.int p3), .val (.int p4), .val (.int t1), .val (.int t2), .val (.long k1), .second, .val (.long k2), .second, .val (.int 0), .val (.ref b11), .val (.ref b26), .unset, .unset, .unset, .unset, .unset, .unset, .unset, .unset, .unset, .unset, .unset, .unset] [(.int 2), (.int 0), (.ref b37), (.ref b37)])) rfl rfl (hb hby at_91)
    have V45 : Arv Z h44 b37 k37 .int (1 : Int32) [(.int 2)] (.int 0) := Arv.set Ar44 q44 S44 M44 H44 G44 rfl W44 0 rfl (Nat.le_of_ble_eq_true rfl)
    have K46 := K41.wr W44 (Or.inr sz39)
    have O47 := O42.wr W44 g40
    have N44 := Fr.snoc X44 N33 g40
    refine Go.st st44 ?_
    show Go _ _ _ _ _ _ _ (T44.setTop (mkF m 92 _ [(.ref b37)]))
    refine Go.st (t' := T44.setTop (mkF m 95 #[.val (.int p0), .val (.int p1), .val (.int p2), .val (.int p3), .val (.int p4), .val (.int t1), .val (.int t2), .val (.long k1), .second, .val (.long k2), .second, .val (.int 0), .val (.ref b11), .val (.ref b26), .val (.ref b37), .unset, .unset, .unset, .unset, .unset, .unset, .unset, .unset, .unset, .unset, .unset] [(.int 1)])) (fun target kt => ?_) ?_
    · refine XS.astore X44.here hx rfl (hb hby at_92) rfl rfl (l' := #[.val (.int p0), .val (.int p1), .val (.int p2), .val (.int p3), .val (.int p4), .val (.int t1), .val (.int t2), .val (.long k1), .second, .val (.long k2), .second, .val (.int 0), .val (.ref b11), .val (.ref b26), .val (.ref b37), .unset, .unset, .unset, .unset, .unset, .unset, .unset, .unset, .unset, .unset, .unset]) rfl ?_
      show Steps p.tables e below (T44.setTop (mkF m 94 _ [])) target
      refine XS.iconst X44.here hx rfl (hb hby at_94) ?_
      exact kt
    obtain ⟨T48, h48, k48, X48, e48, E48, A48, B48, st48⟩ := newPE (aty := .int) X44 hx hZ (hw _ tw3) e44 (g := (mkF m 95 #[.val (.int p0), .val (.int p1), .val (.int p2), .val (.int p3), .val (.int p4), .val (.int t1), .val (.int t2), .val (.long k1), .second, .val (.long k2), .second, .val (.int 0), .val (.ref b11), .val (.ref b26), .val (.ref b37), .unset, .unset, .unset, .unset, .unset, .unset, .unset, .unset, .unset, .unset, .unset] [(.int 1)])) rfl (hb hby at_95) rfl (by decide) (cap := 1) (by decide) (by decide) (by decide) (by decide) (ad := "[I") (by decide)
    obtain ⟨b48, g48⟩ : ∃ z, z = h44.size := ⟨_, rfl⟩
    rw [← g48] at A48 B48 st48
    have lb49 : h44.size ≤ b48 := Nat.le_of_eq g48.symm
    have sz50 : h0.size ≤ b48 := Nat.le_trans K46.1 lb49
    have g51 : n0 ≤ b48 := Nat.le_trans Z0 sz50
    have K52 := K46.ext E48
    have O53 := O47.ext E48
    have V54 : Arv Z h48 b48 k48 .int (1 : Int32) [(.int 0)] (.int 0) := (Arv.new A48 (by decide)).pad (pad_rep [] (.int 0) 1)
    refine Go.st st48 ?_
    show Go _ _ _ _ _ _ _ (T48.setTop (mkF m 97 _ [(.ref b48)]))
    refine Go.st (t' := T48.setTop (mkF m 100 #[.val (.int p0), .val (.int p1), .val (.int p2), .val (.int p3), .val (.int p4), .val (.int t1), .val (.int t2), .val (.long k1), .second, .val (.long k2), .second, .val (.int 0), .val (.ref b11), .val (.ref b26), .val (.ref b37), .unset, .unset, .unset, .unset, .unset, .unset, .unset, .unset, .unset, .unset, .unset] [(.int 3), (.int 0), (.ref b48), (.ref b48)])) (fun target kt => ?_) ?_
    · refine XS.dup X48.here hx rfl (hb hby at_97) rfl rfl ?_
      show Steps p.tables e below (T48.setTop (mkF m 98 _ [(.ref b48), (.ref b48)])) target
      refine XS.iconst X48.here hx rfl (hb hby at_98) ?_
      show Steps p.tables e below (T48.setTop (mkF m 99 _ [(.int 0), (.ref b48), (.ref b48)])) target
      refine XS.iconst X48.here hx rfl (hb hby at_99) ?_
      exact kt
    obtain ⟨cl55, Ar55, q55, S55, M55, H55, G55⟩ := id V54
    have hin55 : ¬ ((0 : Int32) < 0 ∨ cl55.slots.size ≤ ((0 : Int32)).toNatClampNeg) := inb_of S55 ⟨by decide, by decide⟩
    obtain ⟨T55, h55, X55, e55, W55, st55⟩ := stI X48 hx hZ e48 Ar55 (j := (0 : Int32)) hin55 (g := (mkF m 100 #[.val (.int p0), .val (.int p1), .val (.int p2), .val (.int p3), .val (.int p4), .val (.int t1), .val (.int t2), .val (.long k1), .second, .val (.long k2), .second, .val (.int 0), .val (.ref b11), .val (.ref b26), .val (.ref b37), .unset, .unset, .unset, .unset, .unset, .unset, .unset, .unset, .unset, .unset, .unset] [(.int 3), (.int 0), (.ref b48), (.ref b48)])) rfl rfl (hb hby at_100)
    have V56 : Arv Z h55 b48 k48 .int (1 : Int32) [(.int 3)] (.int 0) := Arv.set Ar55 q55 S55 M55 H55 G55 rfl W55 0 rfl (Nat.le_of_ble_eq_true rfl)
    have K57 := K52.wr W55 (Or.inr sz50)
    have O58 := O53.wr W55 g51
    have N55 := Fr.snoc X55 N44 g51
    refine Go.st st55 ?_
    show Go _ _ _ _ _ _ _ (T55.setTop (mkF m 101 _ [(.ref b48)]))
    refine Go.st (t' := T55.setTop (mkF m 104 #[.val (.int p0), .val (.int p1), .val (.int p2), .val (.int p3), .val (.int p4), .val (.int t1), .val (.int t2), .val (.long k1), .second, .val (.long k2), .second, .val (.int 0), .val (.ref b11), .val (.ref b26), .val (.ref b37), .val (.ref b48), .unset, .unset, .unset, .unset, .unset, .unset, .unset, .unset, .unset, .unset] [(.int 1)])) (fun target kt => ?_) ?_
    · refine XS.astore X55.here hx rfl (hb hby at_101) rfl rfl (l' := #[.val (.int p0), .val (.int p1), .val (.int p2), .val (.int p3), .val (.int p4), .val (.int t1), .val (.int t2), .val (.long k1), .second, .val (.long k2), .second, .val (.int 0), .val (.ref b11), .val (.ref b26), .val (.ref b37), .val (.ref b48), .unset, .unset, .unset, .unset, .unset, .unset, .unset, .unset, .unset, .unset]) rfl ?_
      show Steps p.tables e below (T55.setTop (mkF m 103 _ [])) target
      refine XS.iconst X55.here hx rfl (hb hby at_103) ?_
      exact kt
    obtain ⟨T59, h59, k59, X59, e59, E59, A59, B59, st59⟩ := newPE (aty := .int) X55 hx hZ (hw _ tw3) e55 (g := (mkF m 104 #[.val (.int p0), .val (.int p1), .val (.int p2), .val (.int p3), .val (.int p4), .val (.int t1), .val (.int t2), .val (.long k1), .second, .val (.long k2), .second, .val (.int 0), .val (.ref b11), .val (.ref b26), .val (.ref b37), .val (.ref b48), .unset, .unset, .unset, .unset, .unset, .unset, .unset, .unset, .unset, .unset] [(.int 1)])) rfl (hb hby at_104) rfl (by decide) (cap := 1) (by decide) (by decide) (by decide) (by decide) (ad := "[I") (by decide)
    obtain ⟨b59, g59⟩ : ∃ z, z = h55.size := ⟨_, rfl⟩
    rw [← g59] at A59 B59 st59
    have lb60 : h55.size ≤ b59 := Nat.le_of_eq g59.symm
    have sz61 : h0.size ≤ b59 := Nat.le_trans K57.1 lb60
    have g62 : n0 ≤ b59 := Nat.le_trans Z0 sz61
    have K63 := K57.ext E59
    have O64 := O58.ext E59
    have V65 : Arv Z h59 b59 k59 .int (1 : Int32) [(.int 0)] (.int 0) := (Arv.new A59 (by decide)).pad (pad_rep [] (.int 0) 1)
    refine Go.st st59 ?_
    show Go _ _ _ _ _ _ _ (T59.setTop (mkF m 106 _ [(.ref b59)]))
    refine Go.st (t' := T59.setTop (mkF m 109 #[.val (.int p0), .val (.int p1), .val (.int p2), .val (.int p3), .val (.int p4), .val (.int t1), .val (.int t2), .val (.long k1), .second, .val (.long k2), .second, .val (.int 0), .val (.ref b11), .val (.ref b26), .val (.ref b37), .val (.ref b48), .unset, .unset, .unset, .unset, .unset, .unset, .unset, .unset, .unset, .unset] [(.int 4), (.int 0), (.ref b59), (.ref b59)])) (fun target kt => ?_) ?_
    · refine XS.dup X59.here hx rfl (hb hby at_106) rfl rfl ?_
      show Steps p.tables e below (T59.setTop (mkF m 107 _ [(.ref b59), (.ref b59)])) target
      refine XS.iconst X59.here hx rfl (hb hby at_107) ?_
      show Steps p.tables e below (T59.setTop (mkF m 108 _ [(.int 0), (.ref b59), (.ref b59)])) target
      refine XS.iconst X59.here hx rfl (hb hby at_108) ?_
      exact kt
    obtain ⟨cl66, Ar66, q66, S66, M66, H66, G66⟩ := id V65
    have hin66 : ¬ ((0 : Int32) < 0 ∨ cl66.slots.size ≤ ((0 : Int32)).toNatClampNeg) := inb_of S66 ⟨by decide, by decide⟩
    obtain ⟨T66, h66, X66, e66, W66, st66⟩ := stI X59 hx hZ e59 Ar66 (j := (0 : Int32)) hin66 (g := (mkF m 109 #[.val (.int p0), .val (.int p1), .val (.int p2), .val (.int p3), .val (.int p4), .val (.int t1), .val (.int t2), .val (.long k1), .second, .val (.long k2), .second, .val (.int 0), .val (.ref b11), .val (.ref b26), .val (.ref b37), .val (.ref b48), .unset, .unset, .unset, .unset, .unset, .unset, .unset, .unset, .unset, .unset] [(.int 4), (.int 0), (.ref b59), (.ref b59)])) rfl rfl (hb hby at_109)
    have V67 : Arv Z h66 b59 k59 .int (1 : Int32) [(.int 4)] (.int 0) := Arv.set Ar66 q66 S66 M66 H66 G66 rfl W66 0 rfl (Nat.le_of_ble_eq_true rfl)
    have K68 := K63.wr W66 (Or.inr sz61)
    have O69 := O64.wr W66 g62
    have N66 := Fr.snoc X66 N55 g62
    refine Go.st st66 ?_
    show Go _ _ _ _ _ _ _ (T66.setTop (mkF m 110 _ [(.ref b59)]))
    refine Go.st (t' := T66.setTop (mkF m 113 #[.val (.int p0), .val (.int p1), .val (.int p2), .val (.int p3), .val (.int p4), .val (.int t1), .val (.int t2), .val (.long k1), .second, .val (.long k2), .second, .val (.int 0), .val (.ref b11), .val (.ref b26), .val (.ref b37), .val (.ref b48), .val (.ref b59), .unset, .unset, .unset, .unset, .unset, .unset, .unset, .unset, .unset] [(.int 1)])) (fun target kt => ?_) ?_
    · refine XS.astore X66.here hx rfl (hb hby at_110) rfl rfl (l' := #[.val (.int p0), .val (.int p1), .val (.int p2), .val (.int p3), .val (.int p4), .val (.int t1), .val (.int t2), .val (.long k1), .second, .val (.long k2), .second, .val (.int 0), .val (.ref b11), .val (.ref b26), .val (.ref b37), .val (.ref b48), .val (.ref b59), .unset, .unset, .unset, .unset, .unset, .unset, .unset, .unset, .unset]) rfl ?_
      show Steps p.tables e below (T66.setTop (mkF m 112 _ [])) target
      refine XS.iconst X66.here hx rfl (hb hby at_112) ?_
      exact kt
    obtain ⟨T70, h70, k70, X70, e70, E70, A70, B70, st70⟩ := newPE (aty := .int) X66 hx hZ (hw _ tw3) e66 (g := (mkF m 113 #[.val (.int p0), .val (.int p1), .val (.int p2), .val (.int p3), .val (.int p4), .val (.int t1), .val (.int t2), .val (.long k1), .second, .val (.long k2), .second, .val (.int 0), .val (.ref b11), .val (.ref b26), .val (.ref b37), .val (.ref b48), .val (.ref b59), .unset, .unset, .unset, .unset, .unset, .unset, .unset, .unset, .unset] [(.int 1)])) rfl (hb hby at_113) rfl (by decide) (cap := 1) (by decide) (by decide) (by decide) (by decide) (ad := "[I") (by decide)
    obtain ⟨b70, g70⟩ : ∃ z, z = h66.size := ⟨_, rfl⟩
    rw [← g70] at A70 B70 st70
    have lb71 : h66.size ≤ b70 := Nat.le_of_eq g70.symm
    have sz72 : h0.size ≤ b70 := Nat.le_trans K68.1 lb71
    have g73 : n0 ≤ b70 := Nat.le_trans Z0 sz72
    have K74 := K68.ext E70
    have O75 := O69.ext E70
    have V76 : Arv Z h70 b70 k70 .int (1 : Int32) [(.int 0)] (.int 0) := (Arv.new A70 (by decide)).pad (pad_rep [] (.int 0) 1)
    refine Go.st st70 ?_
    show Go _ _ _ _ _ _ _ (T70.setTop (mkF m 115 _ [(.ref b70)]))
    refine Go.st (t' := T70.setTop (mkF m 118 #[.val (.int p0), .val (.int p1), .val (.int p2), .val (.int p3), .val (.int p4), .val (.int t1), .val (.int t2), .val (.long k1), .second, .val (.long k2), .second, .val (.int 0), .val (.ref b11), .val (.ref b26), .val (.ref b37), .val (.ref b48), .val (.ref b59), .unset, .unset, .unset, .unset, .unset, .unset, .unset, .unset, .unset] [(.int 5), (.int 0), (.ref b70), (.ref b70)])) (fun target kt => ?_) ?_
    · refine XS.dup X70.here hx rfl (hb hby at_115) rfl rfl ?_
      show Steps p.tables e below (T70.setTop (mkF m 116 _ [(.ref b70), (.ref b70)])) target
      refine XS.iconst X70.here hx rfl (hb hby at_116) ?_
      show Steps p.tables e below (T70.setTop (mkF m 117 _ [(.int 0), (.ref b70), (.ref b70)])) target
      refine XS.iconst X70.here hx rfl (hb hby at_117) ?_
      exact kt
    obtain ⟨cl77, Ar77, q77, S77, M77, H77, G77⟩ := id V76
    have hin77 : ¬ ((0 : Int32) < 0 ∨ cl77.slots.size ≤ ((0 : Int32)).toNatClampNeg) := inb_of S77 ⟨by decide, by decide⟩
    obtain ⟨T77, h77, X77, e77, W77, st77⟩ := stI X70 hx hZ e70 Ar77 (j := (0 : Int32)) hin77 (g := (mkF m 118 #[.val (.int p0), .val (.int p1), .val (.int p2), .val (.int p3), .val (.int p4), .val (.int t1), .val (.int t2), .val (.long k1), .second, .val (.long k2), .second, .val (.int 0), .val (.ref b11), .val (.ref b26), .val (.ref b37), .val (.ref b48), .val (.ref b59), .unset, .unset, .unset, .unset, .unset, .unset, .unset, .unset, .unset] [(.int 5), (.int 0), (.ref b70), (.ref b70)])) rfl rfl (hb hby at_118)
    have V78 : Arv Z h77 b70 k70 .int (1 : Int32) [(.int 5)] (.int 0) := Arv.set Ar77 q77 S77 M77 H77 G77 rfl W77 0 rfl (Nat.le_of_ble_eq_true rfl)
    have K79 := K74.wr W77 (Or.inr sz72)
    have O80 := O75.wr W77 g73
    have N77 := Fr.snoc X77 N66 g73
    refine Go.st st77 ?_
    show Go _ _ _ _ _ _ _ (T77.setTop (mkF m 119 _ [(.ref b70)]))
    refine Go.st (t' := T77.setTop (mkF m 122 #[.val (.int p0), .val (.int p1), .val (.int p2), .val (.int p3), .val (.int p4), .val (.int t1), .val (.int t2), .val (.long k1), .second, .val (.long k2), .second, .val (.int 0), .val (.ref b11), .val (.ref b26), .val (.ref b37), .val (.ref b48), .val (.ref b59), .val (.ref b70), .unset, .unset, .unset, .unset, .unset, .unset, .unset, .unset] [(.int 1)])) (fun target kt => ?_) ?_
    · refine XS.astore X77.here hx rfl (hb hby at_119) rfl rfl (l' := #[.val (.int p0), .val (.int p1), .val (.int p2), .val (.int p3), .val (.int p4), .val (.int t1), .val (.int t2), .val (.long k1), .second, .val (.long k2), .second, .val (.int 0), .val (.ref b11), .val (.ref b26), .val (.ref b37), .val (.ref b48), .val (.ref b59), .val (.ref b70), .unset, .unset, .unset, .unset, .unset, .unset, .unset, .unset]) rfl ?_
      show Steps p.tables e below (T77.setTop (mkF m 121 _ [])) target
      refine XS.iconst X77.here hx rfl (hb hby at_121) ?_
      exact kt
    obtain ⟨T81, h81, k81, X81, e81, E81, A81, B81, st81⟩ := newPE (aty := .int) X77 hx hZ (hw _ tw3) e77 (g := (mkF m 122 #[.val (.int p0), .val (.int p1), .val (.int p2), .val (.int p3), .val (.int p4), .val (.int t1), .val (.int t2), .val (.long k1), .second, .val (.long k2), .second, .val (.int 0), .val (.ref b11), .val (.ref b26), .val (.ref b37), .val (.ref b48), .val (.ref b59), .val (.ref b70), .unset, .unset, .unset, .unset, .unset, .unset, .unset, .unset] [(.int 1)])) rfl (hb hby at_122) rfl (by decide) (cap := 1) (by decide) (by decide) (by decide) (by decide) (ad := "[I") (by decide)
    obtain ⟨b81, g81⟩ : ∃ z, z = h77.size := ⟨_, rfl⟩
    rw [← g81] at A81 B81 st81
    have lb82 : h77.size ≤ b81 := Nat.le_of_eq g81.symm
    have sz83 : h0.size ≤ b81 := Nat.le_trans K79.1 lb82
    have g84 : n0 ≤ b81 := Nat.le_trans Z0 sz83
    have K85 := K79.ext E81
    have O86 := O80.ext E81
    have V87 : Arv Z h81 b81 k81 .int (1 : Int32) [(.int 0)] (.int 0) := (Arv.new A81 (by decide)).pad (pad_rep [] (.int 0) 1)
    refine Go.st st81 ?_
    show Go _ _ _ _ _ _ _ (T81.setTop (mkF m 124 _ [(.ref b81)]))
    refine Go.st (t' := T81.setTop (mkF m 128 #[.val (.int p0), .val (.int p1), .val (.int p2), .val (.int p3), .val (.int p4), .val (.int t1), .val (.int t2), .val (.long k1), .second, .val (.long k2), .second, .val (.int 0), .val (.ref b11), .val (.ref b26), .val (.ref b37), .val (.ref b48), .val (.ref b59), .val (.ref b70), .unset, .unset, .unset, .unset, .unset, .unset, .unset, .unset] [(.int 6), (.int 0), (.ref b81), (.ref b81)])) (fun target kt => ?_) ?_
    · refine XS.dup X81.here hx rfl (hb hby at_124) rfl rfl ?_
      show Steps p.tables e below (T81.setTop (mkF m 125 _ [(.ref b81), (.ref b81)])) target
      refine XS.iconst X81.here hx rfl (hb hby at_125) ?_
      show Steps p.tables e below (T81.setTop (mkF m 126 _ [(.int 0), (.ref b81), (.ref b81)])) target
      refine XS.bipush X81.here hx rfl (hb hby at_126) ?_
      exact kt
    obtain ⟨cl88, Ar88, q88, S88, M88, H88, G88⟩ := id V87
    have hin88 : ¬ ((0 : Int32) < 0 ∨ cl88.slots.size ≤ ((0 : Int32)).toNatClampNeg) := inb_of S88 ⟨by decide, by decide⟩
    obtain ⟨T88, h88, X88, e88, W88, st88⟩ := stI X81 hx hZ e81 Ar88 (j := (0 : Int32)) hin88 (g := (mkF m 128 #[.val (.int p0), .val (.int p1), .val (.int p2), .val (.int p3), .val (.int p4), .val (.int t1), .val (.int t2), .val (.long k1), .second, .val (.long k2), .second, .val (.int 0), .val (.ref b11), .val (.ref b26), .val (.ref b37), .val (.ref b48), .val (.ref b59), .val (.ref b70), .unset, .unset, .unset, .unset, .unset, .unset, .unset, .unset] [(.int 6), (.int 0), (.ref b81), (.ref b81)])) rfl rfl (hb hby at_128)
    have V89 : Arv Z h88 b81 k81 .int (1 : Int32) [(.int 6)] (.int 0) := Arv.set Ar88 q88 S88 M88 H88 G88 rfl W88 0 rfl (Nat.le_of_ble_eq_true rfl)
    have K90 := K85.wr W88 (Or.inr sz83)
    have O91 := O86.wr W88 g84
    have N88 := Fr.snoc X88 N77 g84
    refine Go.st st88 ?_
    show Go _ _ _ _ _ _ _ (T88.setTop (mkF m 129 _ [(.ref b81)]))
    refine Go.st (t' := T88.setTop (mkF m 132 #[.val (.int p0), .val (.int p1), .val (.int p2), .val (.int p3), .val (.int p4), .val (.int t1), .val (.int t2), .val (.long k1), .second, .val (.long k2), .second, .val (.int 0), .val (.ref b11), .val (.ref b26), .val (.ref b37), .val (.ref b48), .val (.ref b59), .val (.ref b70), .val (.ref b81), .unset, .unset, .unset, .unset, .unset, .unset, .unset] [(.int 1)])) (fun target kt => ?_) ?_
    · refine XS.astore X88.here hx rfl (hb hby at_129) rfl rfl (l' := #[.val (.int p0), .val (.int p1), .val (.int p2), .val (.int p3), .val (.int p4), .val (.int t1), .val (.int t2), .val (.long k1), .second, .val (.long k2), .second, .val (.int 0), .val (.ref b11), .val (.ref b26), .val (.ref b37), .val (.ref b48), .val (.ref b59), .val (.ref b70), .val (.ref b81), .unset, .unset, .unset, .unset, .unset, .unset, .unset]) rfl ?_
      show Steps p.tables e below (T88.setTop (mkF m 131 _ [])) target
      refine XS.iconst X88.here hx rfl (hb hby at_131) ?_
      exact kt
    obtain ⟨T92, h92, k92, X92, e92, E92, A92, B92, st92⟩ := newPE (aty := .int) X88 hx hZ (hw _ tw3) e88 (g := (mkF m 132 #[.val (.int p0), .val (.int p1), .val (.int p2), .val (.int p3), .val (.int p4), .val (.int t1), .val (.int t2), .val (.long k1), .second, .val (.long k2), .second, .val (.int 0), .val (.ref b11), .val (.ref b26), .val (.ref b37), .val (.ref b48), .val (.ref b59), .val (.ref b70), .val (.ref b81), .unset, .unset, .unset, .unset, .unset, .unset, .unset] [(.int 1)])) rfl (hb hby at_132) rfl (by decide) (cap := 1) (by decide) (by decide) (by decide) (by decide) (ad := "[I") (by decide)
    obtain ⟨b92, g92⟩ : ∃ z, z = h88.size := ⟨_, rfl⟩
    rw [← g92] at A92 B92 st92
    have lb93 : h88.size ≤ b92 := Nat.le_of_eq g92.symm
    have sz94 : h0.size ≤ b92 := Nat.le_trans K90.1 lb93
    have g95 : n0 ≤ b92 := Nat.le_trans Z0 sz94
    have K96 := K90.ext E92
    have O97 := O91.ext E92
    have V98 : Arv Z h92 b92 k92 .int (1 : Int32) [(.int 0)] (.int 0) := (Arv.new A92 (by decide)).pad (pad_rep [] (.int 0) 1)
    refine Go.st st92 ?_
    show Go _ _ _ _ _ _ _ (T92.setTop (mkF m 134 _ [(.ref b92)]))
    refine Go.st (t' := T92.setTop (mkF m 138 #[.val (.int p0), .val (.int p1), .val (.int p2), .val (.int p3), .val (.int p4), .val (.int t1), .val (.int t2), .val (.long k1), .second, .val (.long k2), .second, .val (.int 0), .val (.ref b11), .val (.ref b26), .val (.ref b37), .val (.ref b48), .val (.ref b59), .val (.ref b70), .val (.ref b81), .unset, .unset, .unset, .unset, .unset, .unset, .unset] [(.int 7), (.int 0), (.ref b92), (.ref b92)])) (fun target kt => ?_) ?_
    · refine XS.dup X92.here hx rfl (hb hby at_134) rfl rfl ?_
      show Steps p.tables e below (T92.setTop (mkF m 135 _ [(.ref b92), (.ref b92)])) target
      refine XS.iconst X92.here hx rfl (hb hby at_135) ?_
      show Steps p.tables e below (T92.setTop (mkF m 136 _ [(.int 0), (.ref b92), (.ref b92)])) target
      refine XS.bipush X92.here hx rfl (hb hby at_136) ?_
      exact kt
    obtain ⟨cl99, Ar99, q99, S99, M99, H99, G99⟩ := id V98
    have hin99 : ¬ ((0 : Int32) < 0 ∨ cl99.slots.size ≤ ((0 : Int32)).toNatClampNeg) := inb_of S99 ⟨by decide, by decide⟩
    obtain ⟨T99, h99, X99, e99, W99, st99⟩ := stI X92 hx hZ e92 Ar99 (j := (0 : Int32)) hin99 (g := (mkF m 138 #[.val (.int p0), .val (.int p1), .val (.int p2), .val (.int p3), .val (.int p4), .val (.int t1), .val (.int t2), .val (.long k1), .second, .val (.long k2), .second, .val (.int 0), .val (.ref b11), .val (.ref b26), .val (.ref b37), .val (.ref b48), .val (.ref b59), .val (.ref b70), .val (.ref b81), .unset, .unset, .unset, .unset, .unset, .unset, .unset] [(.int 7), (.int 0), (.ref b92), (.ref b92)])) rfl rfl (hb hby at_138)
    have V100 : Arv Z h99 b92 k92 .int (1 : Int32) [(.int 7)] (.int 0) := Arv.set Ar99 q99 S99 M99 H99 G99 rfl W99 0 rfl (Nat.le_of_ble_eq_true rfl)
    have K101 := K96.wr W99 (Or.inr sz94)
    have O102 := O97.wr W99 g95
    have N99 := Fr.snoc X99 N88 g95
    refine Go.st st99 ?_
    show Go _ _ _ _ _ _ _ (T99.setTop (mkF m 139 _ [(.ref b92)]))
    refine Go.st (t' := T99.setTop (mkF m 142 #[.val (.int p0), .val (.int p1), .val (.int p2), .val (.int p3), .val (.int p4), .val (.int t1), .val (.int t2), .val (.long k1), .second, .val (.long k2), .second, .val (.int 0), .val (.ref b11), .val (.ref b26), .val (.ref b37), .val (.ref b48), .val (.ref b59), .val (.ref b70), .val (.ref b81), .val (.ref b92), .unset, .unset, .unset, .unset, .unset, .unset] [(.int 1)])) (fun target kt => ?_) ?_
    · refine XS.astore X99.here hx rfl (hb hby at_139) rfl rfl (l' := #[.val (.int p0), .val (.int p1), .val (.int p2), .val (.int p3), .val (.int p4), .val (.int t1), .val (.int t2), .val (.long k1), .second, .val (.long k2), .second, .val (.int 0), .val (.ref b11), .val (.ref b26), .val (.ref b37), .val (.ref b48), .val (.ref b59), .val (.ref b70), .val (.ref b81), .val (.ref b92), .unset, .unset, .unset, .unset, .unset, .unset]) rfl ?_
      show Steps p.tables e below (T99.setTop (mkF m 141 _ [])) target
      refine XS.iconst X99.here hx rfl (hb hby at_141) ?_
      exact kt
    obtain ⟨T103, h103, k103, X103, e103, E103, A103, B103, st103⟩ := newPE (aty := .int) X99 hx hZ (hw _ tw3) e99 (g := (mkF m 142 #[.val (.int p0), .val (.int p1), .val (.int p2), .val (.int p3), .val (.int p4), .val (.int t1), .val (.int t2), .val (.long k1), .second, .val (.long k2), .second, .val (.int 0), .val (.ref b11), .val (.ref b26), .val (.ref b37), .val (.ref b48), .val (.ref b59), .val (.ref b70), .val (.ref b81), .val (.ref b92), .unset, .unset, .unset, .unset, .unset, .unset] [(.int 1)])) rfl (hb hby at_142) rfl (by decide) (cap := 1) (by decide) (by decide) (by decide) (by decide) (ad := "[I") (by decide)
    obtain ⟨b103, g103⟩ : ∃ z, z = h99.size := ⟨_, rfl⟩
    rw [← g103] at A103 B103 st103
    have lb104 : h99.size ≤ b103 := Nat.le_of_eq g103.symm
    have sz105 : h0.size ≤ b103 := Nat.le_trans K101.1 lb104
    have g106 : n0 ≤ b103 := Nat.le_trans Z0 sz105
    have K107 := K101.ext E103
    have O108 := O102.ext E103
    have V109 : Arv Z h103 b103 k103 .int (1 : Int32) [(.int 0)] (.int 0) := (Arv.new A103 (by decide)).pad (pad_rep [] (.int 0) 1)
    refine Go.st st103 ?_
    show Go _ _ _ _ _ _ _ (T103.setTop (mkF m 144 _ [(.ref b103)]))
    refine Go.st (t' := T103.setTop (mkF m 148 #[.val (.int p0), .val (.int p1), .val (.int p2), .val (.int p3), .val (.int p4), .val (.int t1), .val (.int t2), .val (.long k1), .second, .val (.long k2), .second, .val (.int 0), .val (.ref b11), .val (.ref b26), .val (.ref b37), .val (.ref b48), .val (.ref b59), .val (.ref b70), .val (.ref b81), .val (.ref b92), .unset, .unset, .unset, .unset, .unset, .unset] [(.int 8), (.int 0), (.ref b103), (.ref b103)])) (fun target kt => ?_) ?_
    · refine XS.dup X103.here hx rfl (hb hby at_144) rfl rfl ?_
      show Steps p.tables e below (T103.setTop (mkF m 145 _ [(.ref b103), (.ref b103)])) target
      refine XS.iconst X103.here hx rfl (hb hby at_145) ?_
      show Steps p.tables e below (T103.setTop (mkF m 146 _ [(.int 0), (.ref b103), (.ref b103)])) target
      refine XS.bipush X103.here hx rfl (hb hby at_146) ?_
      exact kt
    obtain ⟨cl110, Ar110, q110, S110, M110, H110, G110⟩ := id V109
    have hin110 : ¬ ((0 : Int32) < 0 ∨ cl110.slots.size ≤ ((0 : Int32)).toNatClampNeg) := inb_of S110 ⟨by decide, by decide⟩
    obtain ⟨T110, h110, X110, e110, W110, st110⟩ := stI X103 hx hZ e103 Ar110 (j := (0 : Int32)) hin110 (g := (mkF m 148 #[.val (.int p0), .val (.int p1), .val (.int p2), .val (.int p3), .val (.int p4), .val (.int t1), .val (.int t2), .val (.long k1), .second, .val (.long k2), .second, .val (.int 0), .val (.ref b11), .val (.ref b26), .val (.ref b37), .val (.ref b48), .val (.ref b59), .val (.ref b70), .val (.ref b81), .val (.ref b92), .unset, .unset, .unset, .unset, .unset, .unset] [(.int 8), (.int 0), (.ref b103), (.ref b103)])) rfl rfl (hb hby at_148)
    have V111 : Arv Z h110 b103 k103 .int (1 : Int32) [(.int 8)] (.int 0) := Arv.set Ar110 q110 S110 M110 H110 G110 rfl W110 0 rfl (Nat.le_of_ble_eq_true rfl)
    have K112 := K107.wr W110 (Or.inr sz105)
    have O113 := O108.wr W110 g106
    have N110 := Fr.snoc X110 N99 g106
    refine Go.st st110 ?_
    show Go _ _ _ _ _ _ _ (T110.setTop (mkF m 149 _ [(.ref b103)]))
    refine Go.st (t' := T110.setTop (mkF m 151 #[.val (.int p0), .val (.int p1), .val (.int p2), .val (.int p3), .val (.int p4), .val (.int t1), .val (.int t2), .val (.long k1), .second, .val (.long k2), .second, .val (.int 0), .val (.ref b11), .val (.ref b26), .val (.ref b37), .val (.ref b48), .val (.ref b59), .val (.ref b70), .val (.ref b81), .val (.ref b92), .val (.ref b103), .unset, .unset, .unset, .unset, .unset] [])) (fun target kt => ?_) ?_
    · refine XS.astore X110.here hx rfl (hb hby at_149) rfl rfl (l' := #[.val (.int p0), .val (.int p1), .val (.int p2), .val (.int p3), .val (.int p4), .val (.int t1), .val (.int t2), .val (.long k1), .second, .val (.long k2), .second, .val (.int 0), .val (.ref b11), .val (.ref b26), .val (.ref b37), .val (.ref b48), .val (.ref b59), .val (.ref b70), .val (.ref b81), .val (.ref b92), .val (.ref b103), .unset, .unset, .unset, .unset, .unset]) rfl ?_
      exact kt
    obtain ⟨T114, h114, X114, e114, E114, A114, D114, -, st114⟩ := newO X110 hx hZ hown (hw _ tw4) (hw _ tw5) (hw _ tw6) e110 (g := (mkF m 151 #[.val (.int p0), .val (.int p1), .val (.int p2), .val (.int p3), .val (.int p4), .val (.int t1), .val (.int t2), .val (.long k1), .second, .val (.long k2), .second, .val (.int 0), .val (.ref b11), .val (.ref b26), .val (.ref b37), .val (.ref b48), .val (.ref b59), .val (.ref b70), .val (.ref b81), .val (.ref b92), .val (.ref b103), .unset, .unset, .unset, .unset, .unset] [])) rfl (hb hby at_151) (by decide) (by decide)
    obtain ⟨b114, g114⟩ : ∃ z, z = h110.size := ⟨_, rfl⟩
    rw [← g114] at A114 D114 st114
    have lb115 : h110.size ≤ b114 := Nat.le_of_eq g114.symm
    have sz116 : h0.size ≤ b114 := Nat.le_trans K112.1 lb115
    have g117 : n0 ≤ b114 := Nat.le_trans Z0 sz116
    have K118 := K112.ext E114
    have O119 := O113.ext E114
    have F120 : Fld Z h114 b114 "com/example/docstride/docstride/search/words/CodePointTables" "blockOf" "[I" .null := D114 (Or.inr (hw _ tw14)) (ty := (.array .int)) (by decide)
    have F121 : Fld Z h114 b114 "com/example/docstride/docstride/search/words/CodePointTables" "blocks" "[I" .null := D114 (Or.inr (hw _ tw16)) (ty := (.array .int)) (by decide)
    have F122 : Fld Z h114 b114 "com/example/docstride/docstride/search/words/CodePointTables" "foldingStarts" "[I" .null := D114 (Or.inr (hw _ tw18)) (ty := (.array .int)) (by decide)
    have F123 : Fld Z h114 b114 "com/example/docstride/docstride/search/words/CodePointTables" "folded" "[I" .null := D114 (Or.inr (hw _ tw20)) (ty := (.array .int)) (by decide)
    have F124 : Fld Z h114 b114 "com/example/docstride/docstride/search/words/CodePointTables" "decomposed" "[I" .null := D114 (Or.inr (hw _ tw22)) (ty := (.array .int)) (by decide)
    have F125 : Fld Z h114 b114 "com/example/docstride/docstride/search/words/CodePointTables" "decompositionStarts" "[I" .null := D114 (Or.inr (hw _ tw24)) (ty := (.array .int)) (by decide)
    have F126 : Fld Z h114 b114 "com/example/docstride/docstride/search/words/CodePointTables" "decompositions" "[I" .null := D114 (Or.inr (hw _ tw26)) (ty := (.array .int)) (by decide)
    have F127 : Fld Z h114 b114 "com/example/docstride/docstride/search/words/CodePointTables" "pairs" "[J" .null := D114 (Or.inr (hw _ tw28)) (ty := (.array .long)) (by decide)
    have F128 : Fld Z h114 b114 "com/example/docstride/docstride/search/words/CodePointTables" "composites" "[I" .null := D114 (Or.inr (hw _ tw30)) (ty := (.array .int)) (by decide)
    refine Go.st st114 ?_
    show Go _ _ _ _ _ _ _ (T114.setTop (mkF m 154 _ [(.ref b114)]))
    refine Go.st (t' := T114.setTop (mkF m 173 #[.val (.int p0), .val (.int p1), .val (.int p2), .val (.int p3), .val (.int p4), .val (.int t1), .val (.int t2), .val (.long k1), .second, .val (.long k2), .second, .val (.int 0), .val (.ref b11), .val (.ref b26), .val (.ref b37), .val (.ref b48), .val (.ref b59), .val (.ref b70), .val (.ref b81), .val (.ref b92), .val (.ref b103), .unset, .unset, .unset, .unset, .unset] [(.ref b103), (.ref b11), (.ref b92), (.ref b81), (.ref b70), (.ref b59), (.ref b48), (.ref b37), (.ref b26), (.ref b114), (.ref b114)])) (fun target kt => ?_) ?_
    · refine XS.dup X114.here hx rfl (hb hby at_154) rfl rfl ?_
      show Steps p.tables e below (T114.setTop (mkF m 155 _ [(.ref b114), (.ref b114)])) target
      refine XS.aload X114.here hx rfl (hb hby at_155) rfl rfl ?_
      show Steps p.tables e below (T114.setTop (mkF m 157 _ [(.ref b26), (.ref b114), (.ref b114)])) target
      refine XS.aload X114.here hx rfl (hb hby at_157) rfl rfl ?_
      show Steps p.tables e below (T114.setTop (mkF m 159 _ [(.ref b37), (.ref b26), (.ref b114), (.ref b114)])) target
      refine XS.aload X114.here hx rfl (hb hby at_159) rfl rfl ?_
      show Steps p.tables e below (T114.setTop (mkF m 161 _ [(.ref b48), (.ref b37), (.ref b26), (.ref b114), (.ref b114)])) target
      refine XS.aload X114.here hx rfl (hb hby at_161) rfl rfl ?_
      show Steps p.tables e below (T114.setTop (mkF m 163 _ [(.ref b59), (.ref b48), (.ref b37), (.ref b26), (.ref b114), (.ref b114)])) target
      refine XS.aload X114.here hx rfl (hb hby at_163) rfl rfl ?_
      show Steps p.tables e below (T114.setTop (mkF m 165 _ [(.ref b70), (.ref b59), (.ref b48), (.ref b37), (.ref b26), (.ref b114), (.ref b114)])) target
      refine XS.aload X114.here hx rfl (hb hby at_165) rfl rfl ?_
      show Steps p.tables e below (T114.setTop (mkF m 167 _ [(.ref b81), (.ref b70), (.ref b59), (.ref b48), (.ref b37), (.ref b26), (.ref b114), (.ref b114)])) target
      refine XS.aload X114.here hx rfl (hb hby at_167) rfl rfl ?_
      show Steps p.tables e below (T114.setTop (mkF m 169 _ [(.ref b92), (.ref b81), (.ref b70), (.ref b59), (.ref b48), (.ref b37), (.ref b26), (.ref b114), (.ref b114)])) target
      refine XS.aload X114.here hx rfl (hb hby at_169) rfl rfl ?_
      show Steps p.tables e below (T114.setTop (mkF m 171 _ [(.ref b11), (.ref b92), (.ref b81), (.ref b70), (.ref b59), (.ref b48), (.ref b37), (.ref b26), (.ref b114), (.ref b114)])) target
      refine XS.aload X114.here hx rfl (hb hby at_171) rfl rfl ?_
      exact kt
    obtain ⟨_, _, ⟨T129, L129, k129, n129⟩, -, X129, ⟨Lc129, hQ129, l129, y129, z129⟩, st129⟩ := X114.specialBack hx (y := (⟨"com/example/docstride/docstride/search/words/CodePointTables", "<init>", "([I[I[I[I[I[I[I[J[I)V"⟩ : MethodName)) rfl hown (mvT hZ (hw _ tw7)) (mvT hZ (hw _ tw8)) (mvT hZ (hw _ tw9)) (by decide) (backOf (W := 1) (rm1 l Z a0 hw [] b114 b26 b37 b48 b59 b70 b81 b92 b11 b103 h114 n0 (Nat.le_trans Z0 K118.1) O119  A114 g117 F120 F121 F122 F123 F124 F125 F126 F127 F128) hZ (hw _ tw9) (hw _ tw6) (by decide) (by decide)) (g := (mkF m 173 #[.val (.int p0), .val (.int p1), .val (.int p2), .val (.int p3), .val (.int p4), .val (.int t1), .val (.int t2), .val (.long k1), .second, .val (.long k2), .second, .val (.int 0), .val (.ref b11), .val (.ref b26), .val (.ref b37), .val (.ref b48), .val (.ref b59), .val (.ref b70), .val (.ref b81), .val (.ref b92), .val (.ref b103), .unset, .unset, .unset, .unset, .unset] [(.ref b103), (.ref b11), (.ref b92), (.ref b81), (.ref b70), (.ref b59), (.ref b48), (.ref b37), (.ref b26), (.ref b114), (.ref b114)])) rfl (by rw [hml]; rfl) (Steps.refl _) (a := b114) (argsL := [(.ref b26), (.ref b37), (.ref b48), (.ref b59), (.ref b70), (.ref b81), (.ref b92), (.ref b11), (.ref b103)]) (rest := [(.ref b114)]) (lenOf pd0 rfl) rfl (by show 2 * 0 + _ ≤ _; exact Nat.le_of_eq rfl) (hb hby at_173) (fun _ _ => ⟨rfl, e114, (by decide : 10 + 0 ≤ _), (by decide : 19 + 0 ≤ _)⟩)
    dsimp only [Pt.U, Pt.locs, Pt.cells, Pt.slots] at X129 l129 y129 z129 st129 hQ129
    subst l129 y129 z129
    obtain ⟨rfl, Nq129, Kq129, q130, q131, q132, q133, q134, q135, q136, q137, q138, q139⟩ := hQ129
    have N129 := Fr.app N110 Nq129
    have K140 := K118.trans Kq129 (allS (Or.inr sz116) all0)
    have O141 := O119.keep Kq129 (allS g117 all0)
    refine Go.by st129 ?_
    show Go _ _ _ _ _ _ _ (T129.setTop (mkF m 176 _ [(.ref b114)]))
    refine Go.st (t' := T129.setTop (mkF m 180 #[.val (.int p0), .val (.int p1), .val (.int p2), .val (.int p3), .val (.int p4), .val (.int t1), .val (.int t2), .val (.long k1), .second, .val (.long k2), .second, .val (.int 0), .val (.ref b11), .val (.ref b26), .val (.ref b37), .val (.ref b48), .val (.ref b59), .val (.ref b70), .val (.ref b81), .val (.ref b92), .val (.ref b103), .val (.ref b114), .unset, .unset, .unset, .unset] [(.ref b114)])) (fun target kt => ?_) ?_
    · refine XS.astore X129.here hx rfl (hb hby at_176) rfl rfl (l' := #[.val (.int p0), .val (.int p1), .val (.int p2), .val (.int p3), .val (.int p4), .val (.int t1), .val (.int t2), .val (.long k1), .second, .val (.long k2), .second, .val (.int 0), .val (.ref b11), .val (.ref b26), .val (.ref b37), .val (.ref b48), .val (.ref b59), .val (.ref b70), .val (.ref b81), .val (.ref b92), .val (.ref b103), .val (.ref b114), .unset, .unset, .unset, .unset]) rfl ?_
      show Steps p.tables e below (T129.setTop (mkF m 178 _ [])) target
      refine XS.aload X129.here hx rfl (hb hby at_178) rfl rfl ?_
      exact kt
    have c142 := ((((((((((((((((B26.wr W33).ext E37).wr W44).ext E48).wr W55).ext E59).wr W66).ext E70).wr W77).ext E81).wr W88).ext E92).wr W99).ext E103).wr W110).ext E114).keep Kq129
    have c143 := ((((((((((((((B37.wr W44).ext E48).wr W55).ext E59).wr W66).ext E70).wr W77).ext E81).wr W88).ext E92).wr W99).ext E103).wr W110).ext E114).keep Kq129
    have c144 := ((((((((((((B48.wr W55).ext E59).wr W66).ext E70).wr W77).ext E81).wr W88).ext E92).wr W99).ext E103).wr W110).ext E114).keep Kq129
    have c145 := ((((((((((B59.wr W66).ext E70).wr W77).ext E81).wr W88).ext E92).wr W99).ext E103).wr W110).ext E114).keep Kq129
    have c146 := ((((((((B70.wr W77).ext E81).wr W88).ext E92).wr W99).ext E103).wr W110).ext E114).keep Kq129
    have c147 := ((((((B81.wr W88).ext E92).wr W99).ext E103).wr W110).ext E114).keep Kq129
    have c148 := ((((B92.wr W99).ext E103).wr W110).ext E114).keep Kq129
    have c149 := ((B103.wr W110).ext E114).keep Kq129
    have o150 : b11 < b26 := Nat.lt_of_lt_of_le V17.lt (Nat.le_trans (Nat.le_trans (Keep.of_wr W18).1 (Keep.of_wr W22).1) lb27)
    have ne151 : b11 ≠ b26 := Nat.ne_of_lt o150
    have o152 : b26 < b37 := Nat.lt_of_lt_of_le V32.lt (Nat.le_trans (Keep.of_wr W33).1 lb38)
    have o153 : b11 < b37 := Nat.lt_trans o150 o152
    have ne154 : b11 ≠ b37 := Nat.ne_of_lt o153
    have o155 : b37 < b48 := Nat.lt_of_lt_of_le V43.lt (Nat.le_trans (Keep.of_wr W44).1 lb49)
    have o156 : b11 < b48 := Nat.lt_trans o153 o155
    have ne157 : b11 ≠ b48 := Nat.ne_of_lt o156
    have o158 : b48 < b59 := Nat.lt_of_lt_of_le V54.lt (Nat.le_trans (Keep.of_wr W55).1 lb60)
    have o159 : b11 < b59 := Nat.lt_trans o156 o158
    have ne160 : b11 ≠ b59 := Nat.ne_of_lt o159
    have o161 : b59 < b70 := Nat.lt_of_lt_of_le V65.lt (Nat.le_trans (Keep.of_wr W66).1 lb71)
    have o162 : b11 < b70 := Nat.lt_trans o159 o161
    have ne163 : b11 ≠ b70 := Nat.ne_of_lt o162
    have o164 : b70 < b81 := Nat.lt_of_lt_of_le V76.lt (Nat.le_trans (Keep.of_wr W77).1 lb82)
    have o165 : b11 < b81 := Nat.lt_trans o162 o164
    have ne166 : b11 ≠ b81 := Nat.ne_of_lt o165
    have o167 : b81 < b92 := Nat.lt_of_lt_of_le V87.lt (Nat.le_trans (Keep.of_wr W88).1 lb93)
    have o168 : b11 < b92 := Nat.lt_trans o165 o167
    have ne169 : b11 ≠ b92 := Nat.ne_of_lt o168
    have o170 : b92 < b103 := Nat.lt_of_lt_of_le V98.lt (Nat.le_trans (Keep.of_wr W99).1 lb104)
    have o171 : b11 < b103 := Nat.lt_trans o168 o170
    have ne172 : b11 ≠ b103 := Nat.ne_of_lt o171
    have o173 : b103 < b114 := Nat.lt_of_lt_of_le V109.lt (Nat.le_trans (Keep.of_wr W110).1 lb115)
    have o174 : b11 < b114 := Nat.lt_trans o171 o173
    have ne175 : b11 ≠ b114 := Nat.ne_of_lt o174
    have c176 := (((((((((((((((((V23.ext E26).other W33 ne151).ext E37).other W44 ne154).ext E48).other W55 ne157).ext E59).other W66 ne160).ext E70).other W77 ne163).ext E81).other W88 ne166).ext E92).other W99 ne169).ext E103).other W110 ne172).ext E114).keep Kq129 (ninS ne175 nin0)
    obtain ⟨cq177, kq177, q177a, q177b, q177c⟩ := isOf hZ rfl q130
    obtain ⟨_, _, ⟨T177, L177, k177, n177⟩, -, X177, ⟨Lc177, hQ177, l177, y177, z177⟩, st177⟩ := X129.virtualBack hx (y := (⟨"com/example/docstride/docstride/search/words/CodePointTables", "arrays", "()[[I"⟩ : MethodName)) (z := (⟨"com/example/docstride/docstride/search/words/CodePointTables", "arrays", "()[[I"⟩ : MethodName)) hown (mvT hZ (hw _ tw31)) (mvT hZ (hw _ tw32)) (notFace_of_selects (args := #[]) (mvT hZ (hw _ tw34))) (mvT hZ (hw _ tw34)) (mvT hZ (hw _ tw33)) (by decide) (backOf (W := 0) (rm3_2 l Z a0 hw [] b114 b26 b37 b48 b59 b70 b81 b92 b11 b103 k11 k1 k2 T129.heap n0 (Nat.le_trans Z0 K140.1) O141  q130 q131 q132 q133 q134 q135 q136 q137 q138 q139 c142 c143 c144 c145 c146 c147 c148 c149 c176) hZ (hw _ tw35) (hw _ tw6) (by decide) (by decide)) q177a q177c (g := (mkF m 180 #[.val (.int p0), .val (.int p1), .val (.int p2), .val (.int p3), .val (.int p4), .val (.int t1), .val (.int t2), .val (.long k1), .second, .val (.long k2), .second, .val (.int 0), .val (.ref b11), .val (.ref b26), .val (.ref b37), .val (.ref b48), .val (.ref b59), .val (.ref b70), .val (.ref b81), .val (.ref b92), .val (.ref b103), .val (.ref b114), .unset, .unset, .unset, .unset] [(.ref b114)])) rfl (by rw [hml]; rfl) (Steps.refl _) (argsL := []) (rest := []) (lenOf pd1 rfl) rfl (by show 2 * 0 + _ ≤ _; exact Nat.le_of_eq rfl) (hb hby at_180) (fun _ _ => ⟨rfl, rfl, (by decide : 10 + 3 ≤ _), (by decide : 19 + 14 ≤ _)⟩)
    dsimp only [Pt.U, Pt.locs, Pt.cells, Pt.slots] at X177 l177 y177 z177 st177 hQ177
    subst l177 y177 z177
    obtain ⟨b178, b179, b180, k181, k182, k183, rfl, Nq177, Kq177, q184, q185, q186⟩ := hQ177
    have N177 := Fr.app N129 Nq177
    have K187 := K140.trans Kq177 all0
    have O188 := O141.keep Kq177 all0
    refine Go.by st177 ?_
    show Go _ _ _ _ _ _ _ (T177.setTop (mkF m 183 _ [(.ref b178)]))
    obtain ⟨cl189, Ar189, -, S189, M189, -, -⟩ := id q186
    obtain ⟨cl190, Ar190, -, S190, M190, H190, -⟩ := id q186
    have hin190 : ¬ ((0 : Int32) < 0 ∨ cl190.slots.size ≤ ((0 : Int32)).toNatClampNeg) := inb_of S190 ⟨by decide, by decide⟩
    have hat190 : cl190.slots[((0 : Int32)).toNatClampNeg]? = some (.ref b48) := H190.at hin190 rfl
    obtain ⟨cl191, Ar191, -, S191, M191, H191, -⟩ := id q186
    have hin191 : ¬ ((1 : Int32) < 0 ∨ cl191.slots.size ≤ ((1 : Int32)).toNatClampNeg) := inb_of S191 ⟨by decide, by decide⟩
    have hat191 : cl191.slots[((1 : Int32)).toNatClampNeg]? = some (.ref b70) := H191.at hin191 rfl
    obtain ⟨cl192, Ar192, -, S192, M192, H192, -⟩ := id q186
    have hin192 : ¬ ((2 : Int32) < 0 ∨ cl192.slots.size ≤ ((2 : Int32)).toNatClampNeg) := inb_of S192 ⟨by decide, by decide⟩
    have hat192 : cl192.slots[((2 : Int32)).toNatClampNeg]? = some (.ref b81) := H192.at hin192 rfl
    obtain ⟨cl193, Ar193, -, S193, M193, H193, -⟩ := id q186
    have hin193 : ¬ ((4 : Int32) < 0 ∨ cl193.slots.size ≤ ((4 : Int32)).toNatClampNeg) := inb_of S193 ⟨by decide, by decide⟩
    have hat193 : cl193.slots[((4 : Int32)).toNatClampNeg]? = some (.ref b26) := H193.at hin193 rfl
    obtain ⟨cl194, Ar194, -, S194, M194, H194, -⟩ := id q186
    have hin194 : ¬ ((5 : Int32) < 0 ∨ cl194.slots.size ≤ ((5 : Int32)).toNatClampNeg) := inb_of S194 ⟨by decide, by decide⟩
    have hat194 : cl194.slots[((5 : Int32)).toNatClampNeg]? = some (.ref b37) := H194.at hin194 rfl
    obtain ⟨cl195, Ar195, -, S195, M195, H195, -⟩ := id q186
    have hin195 : ¬ ((6 : Int32) < 0 ∨ cl195.slots.size ≤ ((6 : Int32)).toNatClampNeg) := inb_of S195 ⟨by decide, by decide⟩
    have hat195 : cl195.slots[((6 : Int32)).toNatClampNeg]? = some (.ref b59) := H195.at hin195 rfl
    obtain ⟨cl196, Ar196, -, S196, M196, H196, -⟩ := id q186
    have hin196 : ¬ ((7 : Int32) < 0 ∨ cl196.slots.size ≤ ((7 : Int32)).toNatClampNeg) := inb_of S196 ⟨by decide, by decide⟩
    have hat196 : cl196.slots[((7 : Int32)).toNatClampNeg]? = some (.ref b92) := H196.at hin196 rfl
    obtain ⟨cl197, Ar197, -, S197, M197, H197, -⟩ := id q186
    have hin197 : ¬ ((9 : Int32) < 0 ∨ cl197.slots.size ≤ ((9 : Int32)).toNatClampNeg) := inb_of S197 ⟨by decide, by decide⟩
    have hat197 : cl197.slots[((9 : Int32)).toNatClampNeg]? = some (.ref b103) := H197.at hin197 rfl
    obtain ⟨cl198, Ar198, -, S198, M198, H198, -⟩ := id q186
    have hin198 : ¬ ((3 : Int32) < 0 ∨ cl198.slots.size ≤ ((3 : Int32)).toNatClampNeg) := inb_of S198 ⟨by decide, by decide⟩
    have hat198 : cl198.slots[((3 : Int32)).toNatClampNeg]? = some (.ref b179) := H198.at hin198 rfl
    obtain ⟨cl199, Ar199, -, S199, M199, H199, -⟩ := id q186
    have hin199 : ¬ ((8 : Int32) < 0 ∨ cl199.slots.size ≤ ((8 : Int32)).toNatClampNeg) := inb_of S199 ⟨by decide, by decide⟩
    have hat199 : cl199.slots[((8 : Int32)).toNatClampNeg]? = some (.ref b180) := H199.at hin199 rfl
    obtain ⟨cl200, Ar200, -, S200, M200, -, -⟩ := id q184
    obtain ⟨cl201, Ar201, -, S201, M201, -, -⟩ := id q185
    obtain ⟨cl202, Ar202, -, S202, M202, H202, -⟩ := id q184
    have hin202 : ¬ ((0 : Int32) < 0 ∨ cl202.slots.size ≤ ((0 : Int32)).toNatClampNeg) := inb_of S202 ⟨by decide, by decide⟩
    have hat202 : cl202.slots[((0 : Int32)).toNatClampNeg]? = some (.int (((k1.toUInt64 >>> ((21 : Int32) &&& 0x3f).toInt64.toUInt64).toInt64).toInt32)) := H202.at hin202 rfl
    obtain ⟨cl203, Ar203, -, S203, M203, H203, -⟩ := id q185
    have hin203 : ¬ ((0 : Int32) < 0 ∨ cl203.slots.size ≤ ((0 : Int32)).toNatClampNeg) := inb_of S203 ⟨by decide, by decide⟩
    have hat203 : cl203.slots[((0 : Int32)).toNatClampNeg]? = some (.int ((k1 &&& (2097151 : Int64)).toInt32)) := H203.at hin203 rfl
    obtain ⟨cl204, Ar204, -, S204, M204, H204, -⟩ := id q184
    have hin204 : ¬ ((1 : Int32) < 0 ∨ cl204.slots.size ≤ ((1 : Int32)).toNatClampNeg) := inb_of S204 ⟨by decide, by decide⟩
    have hat204 : cl204.slots[((1 : Int32)).toNatClampNeg]? = some (.int (((k2.toUInt64 >>> ((21 : Int32) &&& 0x3f).toInt64.toUInt64).toInt64).toInt32)) := H204.at hin204 rfl
    obtain ⟨cl205, Ar205, -, S205, M205, H205, -⟩ := id q185
    have hin205 : ¬ ((1 : Int32) < 0 ∨ cl205.slots.size ≤ ((1 : Int32)).toNatClampNeg) := inb_of S205 ⟨by decide, by decide⟩
    have hat205 : cl205.slots[((1 : Int32)).toNatClampNeg]? = some (.int ((k2 &&& (2097151 : Int64)).toInt32)) := H205.at hin205 rfl
    have c206 := c176.keep Kq177 nin0
    obtain ⟨cl207, Ar207, -, S207, M207, H207, -⟩ := id c206
    have hin207 : ¬ ((0 : Int32) < 0 ∨ cl207.slots.size ≤ ((0 : Int32)).toNatClampNeg) := inb_of S207 ⟨by decide, by decide⟩
    have hat207 : cl207.slots[((0 : Int32)).toNatClampNeg]? = some (.long k1) := H207.at hin207 rfl
    obtain ⟨cl208, Ar208, -, S208, M208, H208, -⟩ := id c206
    have hin208 : ¬ ((1 : Int32) < 0 ∨ cl208.slots.size ≤ ((1 : Int32)).toNatClampNeg) := inb_of S208 ⟨by decide, by decide⟩
    have hat208 : cl208.slots[((1 : Int32)).toNatClampNeg]? = some (.long k2) := H208.at hin208 rfl
    refine Go.st (t' := T177.setTop (mkF m 396 #[.val (.int p0), .val (.int p1), .val (.int p2), .val (.int p3), .val (.int p4), .val (.int t1), .val (.int t2), .val (.long k1), .second, .val (.long k2), .second, .val (.int 0), .val (.ref b11), .val (.ref b26), .val (.ref b37), .val (.ref b48), .val (.ref b59), .val (.ref b70), .val (.ref b81), .val (.ref b92), .val (.ref b103), .val (.ref b114), .val (.ref b178), .val (.int 2), .val (.ref b179), .val (.ref b180)] [(.int 1)])) (fun target kt => ?_) ?_
    · refine XS.astore X177.here hx rfl (hb hby at_183) rfl rfl (l' := #[.val (.int p0), .val (.int p1), .val (.int p2), .val (.int p3), .val (.int p4), .val (.int t1), .val (.int t2), .val (.long k1), .second, .val (.long k2), .second, .val (.int 0), .val (.ref b11), .val (.ref b26), .val (.ref b37), .val (.ref b48), .val (.ref b59), .val (.ref b70), .val (.ref b81), .val (.ref b92), .val (.ref b103), .val (.ref b114), .val (.ref b178), .unset, .unset, .unset]) rfl ?_
      show Steps p.tables e below (T177.setTop (mkF m 185 _ [])) target
      refine XS.aload X177.here hx rfl (hb hby at_185) rfl rfl ?_
      show Steps p.tables e below (T177.setTop (mkF m 187 _ [(.ref b178)])) target
      refine XS.ifnullNo X177.here hx rfl (hb hby at_187) rfl ?_
      show Steps p.tables e below (T177.setTop (mkF m 190 _ [])) target
      refine XS.aload X177.here hx rfl (hb hby at_190) rfl rfl ?_
      show Steps p.tables e below (T177.setTop (mkF m 192 _ [(.ref b178)])) target
      refine X177.arraylength hx Ar189.1 (State.isArrayOf_alike hZ.alike Ar189.2.1) (g := (mkF m 192 #[.val (.int p0), .val (.int p1), .val (.int p2), .val (.int p3), .val (.int p4), .val (.int t1), .val (.int t2), .val (.long k1), .second, .val (.long k2), .second, .val (.int 0), .val (.ref b11), .val (.ref b26), .val (.ref b37), .val (.ref b48), .val (.ref b59), .val (.ref b70), .val (.ref b81), .val (.ref b92), .val (.ref b103), .val (.ref b114), .val (.ref b178), .unset, .unset, .unset] [(.ref b178)])) rfl rfl (hb hby at_192) _ ?_
      rw [len_of S189 M189]
      show Steps p.tables e below (T177.setTop (mkF m 193 _ [(.int 10)])) target
      refine XS.bipush X177.here hx rfl (hb hby at_193) ?_
      show Steps p.tables e below (T177.setTop (mkF m 195 _ [(.int 10), (.int 10)])) target
      refine XS.icmpYes X177.here hx rfl (pc0 := 195) (pc' := 200) rfl (hb hby at_195) rfl (teq (by decide : (10 : Int32) = (10 : Int32))).1 (by decide) (by decide) ?_
      show Steps p.tables e below (T177.setTop (mkF m 200 _ [])) target
      refine XS.aload X177.here hx rfl (hb hby at_200) rfl rfl ?_
      show Steps p.tables e below (T177.setTop (mkF m 202 _ [(.ref b178)])) target
      refine XS.iconst X177.here hx rfl (hb hby at_202) ?_
      show Steps p.tables e below (T177.setTop (mkF m 203 _ [(.int 0), (.ref b178)])) target
      refine X177.aaload hx (j := (0 : Int32)) (v := (.ref b48)) Ar190.1 (State.isArrayOf_alike hZ.alike Ar190.2.1) rfl Ar190.2.2 hin190 hat190 (g := (mkF m 203 #[.val (.int p0), .val (.int p1), .val (.int p2), .val (.int p3), .val (.int p4), .val (.int t1), .val (.int t2), .val (.long k1), .second, .val (.long k2), .second, .val (.int 0), .val (.ref b11), .val (.ref b26), .val (.ref b37), .val (.ref b48), .val (.ref b59), .val (.ref b70), .val (.ref b81), .val (.ref b92), .val (.ref b103), .val (.ref b114), .val (.ref b178), .unset, .unset, .unset] [(.int 0), (.ref b178)])) rfl rfl (hb hby at_203) _ ?_
      show Steps p.tables e below (T177.setTop (mkF m 204 _ [(.ref b48)])) target
      refine XS.aload X177.here hx rfl (hb hby at_204) rfl rfl ?_
      show Steps p.tables e below (T177.setTop (mkF m 206 _ [(.ref b48), (.ref b48)])) target
      refine Jvm.RoadKit.acmp (g := (mkF m 206 #[.val (.int p0), .val (.int p1), .val (.int p2), .val (.int p3), .val (.int p4), .val (.int t1), .val (.int t2), .val (.long k1), .second, .val (.long k2), .second, .val (.int 0), .val (.ref b11), .val (.ref b26), .val (.ref b37), .val (.ref b48), .val (.ref b59), .val (.ref b70), .val (.ref b81), .val (.ref b92), .val (.ref b103), .val (.ref b114), .val (.ref b178), .unset, .unset, .unset] [(.ref b48), (.ref b48)])) X177 hx rfl rfl rfl (pc0 := 206) (pc' := 209) (same := true) rfl (hb hby at_206) rfl (decide_eq_true rfl) (by decide) (by decide) ?_
      show Steps p.tables e below (T177.setTop (mkF m 209 _ [])) target
      refine XS.aload X177.here hx rfl (hb hby at_209) rfl rfl ?_
      show Steps p.tables e below (T177.setTop (mkF m 211 _ [(.ref b178)])) target
      refine XS.iconst X177.here hx rfl (hb hby at_211) ?_
      show Steps p.tables e below (T177.setTop (mkF m 212 _ [(.int 1), (.ref b178)])) target
      refine X177.aaload hx (j := (1 : Int32)) (v := (.ref b70)) Ar191.1 (State.isArrayOf_alike hZ.alike Ar191.2.1) rfl Ar191.2.2 hin191 hat191 (g := (mkF m 212 #[.val (.int p0), .val (.int p1), .val (.int p2), .val (.int p3), .val (.int p4), .val (.int t1), .val (.int t2), .val (.long k1), .second, .val (.long k2), .second, .val (.int 0), .val (.ref b11), .val (.ref b26), .val (.ref b37), .val (.ref b48), .val (.ref b59), .val (.ref b70), .val (.ref b81), .val (.ref b92), .val (.ref b103), .val (.ref b114), .val (.ref b178), .unset, .unset, .unset] [(.int 1), (.ref b178)])) rfl rfl (hb hby at_212) _ ?_
      show Steps p.tables e below (T177.setTop (mkF m 213 _ [(.ref b70)])) target
      refine XS.aload X177.here hx rfl (hb hby at_213) rfl rfl ?_
      show Steps p.tables e below (T177.setTop (mkF m 215 _ [(.ref b70), (.ref b70)])) target
      refine Jvm.RoadKit.acmp (g := (mkF m 215 #[.val (.int p0), .val (.int p1), .val (.int p2), .val (.int p3), .val (.int p4), .val (.int t1), .val (.int t2), .val (.long k1), .second, .val (.long k2), .second, .val (.int 0), .val (.ref b11), .val (.ref b26), .val (.ref b37), .val (.ref b48), .val (.ref b59), .val (.ref b70), .val (.ref b81), .val (.ref b92), .val (.ref b103), .val (.ref b114), .val (.ref b178), .unset, .unset, .unset] [(.ref b70), (.ref b70)])) X177 hx rfl rfl rfl (pc0 := 215) (pc' := 218) (same := true) rfl (hb hby at_215) rfl (decide_eq_true rfl) (by decide) (by decide) ?_
      show Steps p.tables e below (T177.setTop (mkF m 218 _ [])) target
      refine XS.aload X177.here hx rfl (hb hby at_218) rfl rfl ?_
      show Steps p.tables e below (T177.setTop (mkF m 220 _ [(.ref b178)])) target
      refine XS.iconst X177.here hx rfl (hb hby at_220) ?_
      show Steps p.tables e below (T177.setTop (mkF m 221 _ [(.int 2), (.ref b178)])) target
      refine X177.aaload hx (j := (2 : Int32)) (v := (.ref b81)) Ar192.1 (State.isArrayOf_alike hZ.alike Ar192.2.1) rfl Ar192.2.2 hin192 hat192 (g := (mkF m 221 #[.val (.int p0), .val (.int p1), .val (.int p2), .val (.int p3), .val (.int p4), .val (.int t1), .val (.int t2), .val (.long k1), .second, .val (.long k2), .second, .val (.int 0), .val (.ref b11), .val (.ref b26), .val (.ref b37), .val (.ref b48), .val (.ref b59), .val (.ref b70), .val (.ref b81), .val (.ref b92), .val (.ref b103), .val (.ref b114), .val (.ref b178), .unset, .unset, .unset] [(.int 2), (.ref b178)])) rfl rfl (hb hby at_221) _ ?_
      show Steps p.tables e below (T177.setTop (mkF m 222 _ [(.ref b81)])) target
      refine XS.aload X177.here hx rfl (hb hby at_222) rfl rfl ?_
      show Steps p.tables e below (T177.setTop (mkF m 224 _ [(.ref b81), (.ref b81)])) target
      refine Jvm.RoadKit.acmp (g := (mkF m 224 #[.val (.int p0), .val (.int p1), .val (.int p2), .val (.int p3), .val (.int p4), .val (.int t1), .val (.int t2), .val (.long k1), .second, .val (.long k2), .second, .val (.int 0), .val (.ref b11), .val (.ref b26), .val (.ref b37), .val (.ref b48), .val (.ref b59), .val (.ref b70), .val (.ref b81), .val (.ref b92), .val (.ref b103), .val (.ref b114), .val (.ref b178), .unset, .unset, .unset] [(.ref b81), (.ref b81)])) X177 hx rfl rfl rfl (pc0 := 224) (pc' := 227) (same := true) rfl (hb hby at_224) rfl (decide_eq_true rfl) (by decide) (by decide) ?_
      show Steps p.tables e below (T177.setTop (mkF m 227 _ [])) target
      refine XS.aload X177.here hx rfl (hb hby at_227) rfl rfl ?_
      show Steps p.tables e below (T177.setTop (mkF m 229 _ [(.ref b178)])) target
      refine XS.iconst X177.here hx rfl (hb hby at_229) ?_
      show Steps p.tables e below (T177.setTop (mkF m 230 _ [(.int 4), (.ref b178)])) target
      refine X177.aaload hx (j := (4 : Int32)) (v := (.ref b26)) Ar193.1 (State.isArrayOf_alike hZ.alike Ar193.2.1) rfl Ar193.2.2 hin193 hat193 (g := (mkF m 230 #[.val (.int p0), .val (.int p1), .val (.int p2), .val (.int p3), .val (.int p4), .val (.int t1), .val (.int t2), .val (.long k1), .second, .val (.long k2), .second, .val (.int 0), .val (.ref b11), .val (.ref b26), .val (.ref b37), .val (.ref b48), .val (.ref b59), .val (.ref b70), .val (.ref b81), .val (.ref b92), .val (.ref b103), .val (.ref b114), .val (.ref b178), .unset, .unset, .unset] [(.int 4), (.ref b178)])) rfl rfl (hb hby at_230) _ ?_
      show Steps p.tables e below (T177.setTop (mkF m 231 _ [(.ref b26)])) target
      refine XS.aload X177.here hx rfl (hb hby at_231) rfl rfl ?_
      show Steps p.tables e below (T177.setTop (mkF m 233 _ [(.ref b26), (.ref b26)])) target
      refine Jvm.RoadKit.acmp (g := (mkF m 233 #[.val (.int p0), .val (.int p1), .val (.int p2), .val (.int p3), .val (.int p4), .val (.int t1), .val (.int t2), .val (.long k1), .second, .val (.long k2), .second, .val (.int 0), .val (.ref b11), .val (.ref b26), .val (.ref b37), .val (.ref b48), .val (.ref b59), .val (.ref b70), .val (.ref b81), .val (.ref b92), .val (.ref b103), .val (.ref b114), .val (.ref b178), .unset, .unset, .unset] [(.ref b26), (.ref b26)])) X177 hx rfl rfl rfl (pc0 := 233) (pc' := 236) (same := true) rfl (hb hby at_233) rfl (decide_eq_true rfl) (by decide) (by decide) ?_
      show Steps p.tables e below (T177.setTop (mkF m 236 _ [])) target
      refine XS.aload X177.here hx rfl (hb hby at_236) rfl rfl ?_
      show Steps p.tables e below (T177.setTop (mkF m 238 _ [(.ref b178)])) target
      refine XS.iconst X177.here hx rfl (hb hby at_238) ?_
      show Steps p.tables e below (T177.setTop (mkF m 239 _ [(.int 5), (.ref b178)])) target
      refine X177.aaload hx (j := (5 : Int32)) (v := (.ref b37)) Ar194.1 (State.isArrayOf_alike hZ.alike Ar194.2.1) rfl Ar194.2.2 hin194 hat194 (g := (mkF m 239 #[.val (.int p0), .val (.int p1), .val (.int p2), .val (.int p3), .val (.int p4), .val (.int t1), .val (.int t2), .val (.long k1), .second, .val (.long k2), .second, .val (.int 0), .val (.ref b11), .val (.ref b26), .val (.ref b37), .val (.ref b48), .val (.ref b59), .val (.ref b70), .val (.ref b81), .val (.ref b92), .val (.ref b103), .val (.ref b114), .val (.ref b178), .unset, .unset, .unset] [(.int 5), (.ref b178)])) rfl rfl (hb hby at_239) _ ?_
      show Steps p.tables e below (T177.setTop (mkF m 240 _ [(.ref b37)])) target
      refine XS.aload X177.here hx rfl (hb hby at_240) rfl rfl ?_
      show Steps p.tables e below (T177.setTop (mkF m 242 _ [(.ref b37), (.ref b37)])) target
      refine Jvm.RoadKit.acmp (g := (mkF m 242 #[.val (.int p0), .val (.int p1), .val (.int p2), .val (.int p3), .val (.int p4), .val (.int t1), .val (.int t2), .val (.long k1), .second, .val (.long k2), .second, .val (.int 0), .val (.ref b11), .val (.ref b26), .val (.ref b37), .val (.ref b48), .val (.ref b59), .val (.ref b70), .val (.ref b81), .val (.ref b92), .val (.ref b103), .val (.ref b114), .val (.ref b178), .unset, .unset, .unset] [(.ref b37), (.ref b37)])) X177 hx rfl rfl rfl (pc0 := 242) (pc' := 245) (same := true) rfl (hb hby at_242) rfl (decide_eq_true rfl) (by decide) (by decide) ?_
      show Steps p.tables e below (T177.setTop (mkF m 245 _ [])) target
      refine XS.aload X177.here hx rfl (hb hby at_245) rfl rfl ?_
      show Steps p.tables e below (T177.setTop (mkF m 247 _ [(.ref b178)])) target
      refine XS.bipush X177.here hx rfl (hb hby at_247) ?_
      show Steps p.tables e below (T177.setTop (mkF m 249 _ [(.int 6), (.ref b178)])) target
      refine X177.aaload hx (j := (6 : Int32)) (v := (.ref b59)) Ar195.1 (State.isArrayOf_alike hZ.alike Ar195.2.1) rfl Ar195.2.2 hin195 hat195 (g := (mkF m 249 #[.val (.int p0), .val (.int p1), .val (.int p2), .val (.int p3), .val (.int p4), .val (.int t1), .val (.int t2), .val (.long k1), .second, .val (.long k2), .second, .val (.int 0), .val (.ref b11), .val (.ref b26), .val (.ref b37), .val (.ref b48), .val (.ref b59), .val (.ref b70), .val (.ref b81), .val (.ref b92), .val (.ref b103), .val (.ref b114), .val (.ref b178), .unset, .unset, .unset] [(.int 6), (.ref b178)])) rfl rfl (hb hby at_249) _ ?_
      show Steps p.tables e below (T177.setTop (mkF m 250 _ [(.ref b59)])) target
      refine XS.aload X177.here hx rfl (hb hby at_250) rfl rfl ?_
      show Steps p.tables e below (T177.setTop (mkF m 252 _ [(.ref b59), (.ref b59)])) target
      refine Jvm.RoadKit.acmp (g := (mkF m 252 #[.val (.int p0), .val (.int p1), .val (.int p2), .val (.int p3), .val (.int p4), .val (.int t1), .val (.int t2), .val (.long k1), .second, .val (.long k2), .second, .val (.int 0), .val (.ref b11), .val (.ref b26), .val (.ref b37), .val (.ref b48), .val (.ref b59), .val (.ref b70), .val (.ref b81), .val (.ref b92), .val (.ref b103), .val (.ref b114), .val (.ref b178), .unset, .unset, .unset] [(.ref b59), (.ref b59)])) X177 hx rfl rfl rfl (pc0 := 252) (pc' := 255) (same := true) rfl (hb hby at_252) rfl (decide_eq_true rfl) (by decide) (by decide) ?_
      show Steps p.tables e below (T177.setTop (mkF m 255 _ [])) target
      refine XS.aload X177.here hx rfl (hb hby at_255) rfl rfl ?_
      show Steps p.tables e below (T177.setTop (mkF m 257 _ [(.ref b178)])) target
      refine XS.bipush X177.here hx rfl (hb hby at_257) ?_
      show Steps p.tables e below (T177.setTop (mkF m 259 _ [(.int 7), (.ref b178)])) target
      refine X177.aaload hx (j := (7 : Int32)) (v := (.ref b92)) Ar196.1 (State.isArrayOf_alike hZ.alike Ar196.2.1) rfl Ar196.2.2 hin196 hat196 (g := (mkF m 259 #[.val (.int p0), .val (.int p1), .val (.int p2), .val (.int p3), .val (.int p4), .val (.int t1), .val (.int t2), .val (.long k1), .second, .val (.long k2), .second, .val (.int 0), .val (.ref b11), .val (.ref b26), .val (.ref b37), .val (.ref b48), .val (.ref b59), .val (.ref b70), .val (.ref b81), .val (.ref b92), .val (.ref b103), .val (.ref b114), .val (.ref b178), .unset, .unset, .unset] [(.int 7), (.ref b178)])) rfl rfl (hb hby at_259) _ ?_
      show Steps p.tables e below (T177.setTop (mkF m 260 _ [(.ref b92)])) target
      refine XS.aload X177.here hx rfl (hb hby at_260) rfl rfl ?_
      show Steps p.tables e below (T177.setTop (mkF m 262 _ [(.ref b92), (.ref b92)])) target
      refine Jvm.RoadKit.acmp (g := (mkF m 262 #[.val (.int p0), .val (.int p1), .val (.int p2), .val (.int p3), .val (.int p4), .val (.int t1), .val (.int t2), .val (.long k1), .second, .val (.long k2), .second, .val (.int 0), .val (.ref b11), .val (.ref b26), .val (.ref b37), .val (.ref b48), .val (.ref b59), .val (.ref b70), .val (.ref b81), .val (.ref b92), .val (.ref b103), .val (.ref b114), .val (.ref b178), .unset, .unset, .unset] [(.ref b92), (.ref b92)])) X177 hx rfl rfl rfl (pc0 := 262) (pc' := 265) (same := true) rfl (hb hby at_262) rfl (decide_eq_true rfl) (by decide) (by decide) ?_
      show Steps p.tables e below (T177.setTop (mkF m 265 _ [])) target
      refine XS.aload X177.here hx rfl (hb hby at_265) rfl rfl ?_
      show Steps p.tables e below (T177.setTop (mkF m 267 _ [(.ref b178)])) target
      refine XS.bipush X177.here hx rfl (hb hby at_267) ?_
      show Steps p.tables e below (T177.setTop (mkF m 269 _ [(.int 9), (.ref b178)])) target
      refine X177.aaload hx (j := (9 : Int32)) (v := (.ref b103)) Ar197.1 (State.isArrayOf_alike hZ.alike Ar197.2.1) rfl Ar197.2.2 hin197 hat197 (g := (mkF m 269 #[.val (.int p0), .val (.int p1), .val (.int p2), .val (.int p3), .val (.int p4), .val (.int t1), .val (.int t2), .val (.long k1), .second, .val (.long k2), .second, .val (.int 0), .val (.ref b11), .val (.ref b26), .val (.ref b37), .val (.ref b48), .val (.ref b59), .val (.ref b70), .val (.ref b81), .val (.ref b92), .val (.ref b103), .val (.ref b114), .val (.ref b178), .unset, .unset, .unset] [(.int 9), (.ref b178)])) rfl rfl (hb hby at_269) _ ?_
      show Steps p.tables e below (T177.setTop (mkF m 270 _ [(.ref b103)])) target
      refine XS.aload X177.here hx rfl (hb hby at_270) rfl rfl ?_
      show Steps p.tables e below (T177.setTop (mkF m 272 _ [(.ref b103), (.ref b103)])) target
      refine Jvm.RoadKit.acmp (g := (mkF m 272 #[.val (.int p0), .val (.int p1), .val (.int p2), .val (.int p3), .val (.int p4), .val (.int t1), .val (.int t2), .val (.long k1), .second, .val (.long k2), .second, .val (.int 0), .val (.ref b11), .val (.ref b26), .val (.ref b37), .val (.ref b48), .val (.ref b59), .val (.ref b70), .val (.ref b81), .val (.ref b92), .val (.ref b103), .val (.ref b114), .val (.ref b178), .unset, .unset, .unset] [(.ref b103), (.ref b103)])) X177 hx rfl rfl rfl (pc0 := 272) (pc' := 277) (same := true) rfl (hb hby at_272) rfl (decide_eq_true rfl) (by decide) (by decide) ?_
      show Steps p.tables e below (T177.setTop (mkF m 277 _ [])) target
      refine XS.iload X177.here hx rfl (hb hby at_277) rfl ?_
      show Steps p.tables e below (T177.setTop (mkF m 279 _ [(.int 0)])) target
      refine XS.ifYes X177.here hx rfl (pc0 := 279) (pc' := 286) rfl (hb hby at_279) rfl ((if0 _ _).trans (teq (by decide : (0 : Int32) = (0 : Int32))).1) (by decide) (by decide) ?_
      show Steps p.tables e below (T177.setTop (mkF m 286 _ [])) target
      refine XS.iconst X177.here hx rfl (hb hby at_286) ?_
      show Steps p.tables e below (T177.setTop (mkF m 287 _ [(.int 2)])) target
      refine XS.istore X177.here hx rfl (hb hby at_287) rfl (l' := #[.val (.int p0), .val (.int p1), .val (.int p2), .val (.int p3), .val (.int p4), .val (.int t1), .val (.int t2), .val (.long k1), .second, .val (.long k2), .second, .val (.int 0), .val (.ref b11), .val (.ref b26), .val (.ref b37), .val (.ref b48), .val (.ref b59), .val (.ref b70), .val (.ref b81), .val (.ref b92), .val (.ref b103), .val (.ref b114), .val (.ref b178), .val (.int 2), .unset, .unset]) rfl ?_
      show Steps p.tables e below (T177.setTop (mkF m 289 _ [])) target
      refine XS.aload X177.here hx rfl (hb hby at_289) rfl rfl ?_
      show Steps p.tables e below (T177.setTop (mkF m 291 _ [(.ref b178)])) target
      refine XS.iconst X177.here hx rfl (hb hby at_291) ?_
      show Steps p.tables e below (T177.setTop (mkF m 292 _ [(.int 3), (.ref b178)])) target
      refine X177.aaload hx (j := (3 : Int32)) (v := (.ref b179)) Ar198.1 (State.isArrayOf_alike hZ.alike Ar198.2.1) rfl Ar198.2.2 hin198 hat198 (g := (mkF m 292 #[.val (.int p0), .val (.int p1), .val (.int p2), .val (.int p3), .val (.int p4), .val (.int t1), .val (.int t2), .val (.long k1), .second, .val (.long k2), .second, .val (.int 0), .val (.ref b11), .val (.ref b26), .val (.ref b37), .val (.ref b48), .val (.ref b59), .val (.ref b70), .val (.ref b81), .val (.ref b92), .val (.ref b103), .val (.ref b114), .val (.ref b178), .val (.int 2), .unset, .unset] [(.int 3), (.ref b178)])) rfl rfl (hb hby at_292) _ ?_
      show Steps p.tables e below (T177.setTop (mkF m 293 _ [(.ref b179)])) target
      refine XS.astore X177.here hx rfl (hb hby at_293) rfl rfl (l' := #[.val (.int p0), .val (.int p1), .val (.int p2), .val (.int p3), .val (.int p4), .val (.int t1), .val (.int t2), .val (.long k1), .second, .val (.long k2), .second, .val (.int 0), .val (.ref b11), .val (.ref b26), .val (.ref b37), .val (.ref b48), .val (.ref b59), .val (.ref b70), .val (.ref b81), .val (.ref b92), .val (.ref b103), .val (.ref b114), .val (.ref b178), .val (.int 2), .val (.ref b179), .unset]) rfl ?_
      show Steps p.tables e below (T177.setTop (mkF m 295 _ [])) target
      refine XS.aload X177.here hx rfl (hb hby at_295) rfl rfl ?_
      show Steps p.tables e below (T177.setTop (mkF m 297 _ [(.ref b178)])) target
      refine XS.bipush X177.here hx rfl (hb hby at_297) ?_
      show Steps p.tables e below (T177.setTop (mkF m 299 _ [(.int 8), (.ref b178)])) target
      refine X177.aaload hx (j := (8 : Int32)) (v := (.ref b180)) Ar199.1 (State.isArrayOf_alike hZ.alike Ar199.2.1) rfl Ar199.2.2 hin199 hat199 (g := (mkF m 299 #[.val (.int p0), .val (.int p1), .val (.int p2), .val (.int p3), .val (.int p4), .val (.int t1), .val (.int t2), .val (.long k1), .second, .val (.long k2), .second, .val (.int 0), .val (.ref b11), .val (.ref b26), .val (.ref b37), .val (.ref b48), .val (.ref b59), .val (.ref b70), .val (.ref b81), .val (.ref b92), .val (.ref b103), .val (.ref b114), .val (.ref b178), .val (.int 2), .val (.ref b179), .unset] [(.int 8), (.ref b178)])) rfl rfl (hb hby at_299) _ ?_
      show Steps p.tables e below (T177.setTop (mkF m 300 _ [(.ref b180)])) target
      refine XS.astore X177.here hx rfl (hb hby at_300) rfl rfl (l' := #[.val (.int p0), .val (.int p1), .val (.int p2), .val (.int p3), .val (.int p4), .val (.int t1), .val (.int t2), .val (.long k1), .second, .val (.long k2), .second, .val (.int 0), .val (.ref b11), .val (.ref b26), .val (.ref b37), .val (.ref b48), .val (.ref b59), .val (.ref b70), .val (.ref b81), .val (.ref b92), .val (.ref b103), .val (.ref b114), .val (.ref b178), .val (.int 2), .val (.ref b179), .val (.ref b180)]) rfl ?_
      show Steps p.tables e below (T177.setTop (mkF m 302 _ [])) target
      refine XS.aload X177.here hx rfl (hb hby at_302) rfl rfl ?_
      show Steps p.tables e below (T177.setTop (mkF m 304 _ [(.ref b179)])) target
      refine XS.ifnullNo X177.here hx rfl (hb hby at_304) rfl ?_
      show Steps p.tables e below (T177.setTop (mkF m 307 _ [])) target
      refine XS.aload X177.here hx rfl (hb hby at_307) rfl rfl ?_
      show Steps p.tables e below (T177.setTop (mkF m 309 _ [(.ref b180)])) target
      refine XS.ifnullNo X177.here hx rfl (hb hby at_309) rfl ?_
      show Steps p.tables e below (T177.setTop (mkF m 312 _ [])) target
      refine XS.aload X177.here hx rfl (hb hby at_312) rfl rfl ?_
      show Steps p.tables e below (T177.setTop (mkF m 314 _ [(.ref b179)])) target
      refine X177.arraylength hx Ar200.1 (State.isArrayOf_alike hZ.alike Ar200.2.1) (g := (mkF m 314 #[.val (.int p0), .val (.int p1), .val (.int p2), .val (.int p3), .val (.int p4), .val (.int t1), .val (.int t2), .val (.long k1), .second, .val (.long k2), .second, .val (.int 0), .val (.ref b11), .val (.ref b26), .val (.ref b37), .val (.ref b48), .val (.ref b59), .val (.ref b70), .val (.ref b81), .val (.ref b92), .val (.ref b103), .val (.ref b114), .val (.ref b178), .val (.int 2), .val (.ref b179), .val (.ref b180)] [(.ref b179)])) rfl rfl (hb hby at_314) _ ?_
      rw [len_of S200 M200]
      show Steps p.tables e below (T177.setTop (mkF m 315 _ [(.int 2)])) target
      refine XS.iload X177.here hx rfl (hb hby at_315) rfl ?_
      show Steps p.tables e below (T177.setTop (mkF m 317 _ [(.int 2), (.int 2)])) target
      refine XS.icmpNo X177.here hx rfl (hb hby at_317) rfl (teq (by decide : (2 : Int32) = (2 : Int32))).2 ?_
      show Steps p.tables e below (T177.setTop (mkF m 320 _ [])) target
      refine XS.aload X177.here hx rfl (hb hby at_320) rfl rfl ?_
      show Steps p.tables e below (T177.setTop (mkF m 322 _ [(.ref b180)])) target
      refine X177.arraylength hx Ar201.1 (State.isArrayOf_alike hZ.alike Ar201.2.1) (g := (mkF m 322 #[.val (.int p0), .val (.int p1), .val (.int p2), .val (.int p3), .val (.int p4), .val (.int t1), .val (.int t2), .val (.long k1), .second, .val (.long k2), .second, .val (.int 0), .val (.ref b11), .val (.ref b26), .val (.ref b37), .val (.ref b48), .val (.ref b59), .val (.ref b70), .val (.ref b81), .val (.ref b92), .val (.ref b103), .val (.ref b114), .val (.ref b178), .val (.int 2), .val (.ref b179), .val (.ref b180)] [(.ref b180)])) rfl rfl (hb hby at_322) _ ?_
      rw [len_of S201 M201]
      show Steps p.tables e below (T177.setTop (mkF m 323 _ [(.int 2)])) target
      refine XS.iload X177.here hx rfl (hb hby at_323) rfl ?_
      show Steps p.tables e below (T177.setTop (mkF m 325 _ [(.int 2), (.int 2)])) target
      refine XS.icmpYes X177.here hx rfl (pc0 := 325) (pc' := 330) rfl (hb hby at_325) rfl (teq (by decide : (2 : Int32) = (2 : Int32))).1 (by decide) (by decide) ?_
      show Steps p.tables e below (T177.setTop (mkF m 330 _ [])) target
      refine XS.iload X177.here hx rfl (hb hby at_330) rfl ?_
      show Steps p.tables e below (T177.setTop (mkF m 332 _ [(.int 0)])) target
      refine XS.ifYes X177.here hx rfl (pc0 := 332) (pc' := 337) rfl (hb hby at_332) rfl ((if0 _ _).trans (teq (by decide : (0 : Int32) = (0 : Int32))).1) (by decide) (by decide) ?_
      show Steps p.tables e below (T177.setTop (mkF m 337 _ [])) target
      refine XS.aload X177.here hx rfl (hb hby at_337) rfl rfl ?_
      show Steps p.tables e below (T177.setTop (mkF m 339 _ [(.ref b179)])) target
      refine XS.iconst X177.here hx rfl (hb hby at_339) ?_
      show Steps p.tables e below (T177.setTop (mkF m 340 _ [(.int 0), (.ref b179)])) target
      refine X177.iaload hx (j := (0 : Int32)) (v := (.int (((k1.toUInt64 >>> ((21 : Int32) &&& 0x3f).toInt64.toUInt64).toInt64).toInt32))) Ar202.1 (State.isArrayOf_alike hZ.alike Ar202.2.1) Ar202.2.2 hin202 hat202 (g := (mkF m 340 #[.val (.int p0), .val (.int p1), .val (.int p2), .val (.int p3), .val (.int p4), .val (.int t1), .val (.int t2), .val (.long k1), .second, .val (.long k2), .second, .val (.int 0), .val (.ref b11), .val (.ref b26), .val (.ref b37), .val (.ref b48), .val (.ref b59), .val (.ref b70), .val (.ref b81), .val (.ref b92), .val (.ref b103), .val (.ref b114), .val (.ref b178), .val (.int 2), .val (.ref b179), .val (.ref b180)] [(.int 0), (.ref b179)])) rfl rfl (hb hby at_340) _ ?_
      show Steps p.tables e below (T177.setTop (mkF m 341 _ [(.int (((k1.toUInt64 >>> ((21 : Int32) &&& 0x3f).toInt64.toUInt64).toInt64).toInt32))])) target
      refine XS.iloadN X177.here hx rfl (hb hby at_341) rfl ?_
      show Steps p.tables e below (T177.setTop (mkF m 342 _ [(.int p0), (.int (((k1.toUInt64 >>> ((21 : Int32) &&& 0x3f).toInt64.toUInt64).toInt64).toInt32))])) target
      refine XS.icmpNo X177.here hx rfl (hb hby at_342) rfl (teq (by rw [h_k1]; exact own_hi p0 p1 : (((k1.toUInt64 >>> ((21 : Int32) &&& 0x3f).toInt64.toUInt64).toInt64).toInt32) = p0)).2 ?_
      show Steps p.tables e below (T177.setTop (mkF m 345 _ [])) target
      refine XS.aload X177.here hx rfl (hb hby at_345) rfl rfl ?_
      show Steps p.tables e below (T177.setTop (mkF m 347 _ [(.ref b180)])) target
      refine XS.iconst X177.here hx rfl (hb hby at_347) ?_
      show Steps p.tables e below (T177.setTop (mkF m 348 _ [(.int 0), (.ref b180)])) target
      refine X177.iaload hx (j := (0 : Int32)) (v := (.int ((k1 &&& (2097151 : Int64)).toInt32))) Ar203.1 (State.isArrayOf_alike hZ.alike Ar203.2.1) Ar203.2.2 hin203 hat203 (g := (mkF m 348 #[.val (.int p0), .val (.int p1), .val (.int p2), .val (.int p3), .val (.int p4), .val (.int t1), .val (.int t2), .val (.long k1), .second, .val (.long k2), .second, .val (.int 0), .val (.ref b11), .val (.ref b26), .val (.ref b37), .val (.ref b48), .val (.ref b59), .val (.ref b70), .val (.ref b81), .val (.ref b92), .val (.ref b103), .val (.ref b114), .val (.ref b178), .val (.int 2), .val (.ref b179), .val (.ref b180)] [(.int 0), (.ref b180)])) rfl rfl (hb hby at_348) _ ?_
      show Steps p.tables e below (T177.setTop (mkF m 349 _ [(.int ((k1 &&& (2097151 : Int64)).toInt32))])) target
      refine XS.iload X177.here hx rfl (hb hby at_349) rfl ?_
      show Steps p.tables e below (T177.setTop (mkF m 351 _ [(.int t1), (.int ((k1 &&& (2097151 : Int64)).toInt32))])) target
      refine XS.icmpNo X177.here hx rfl (hb hby at_351) rfl (teq (by rw [h_k1, h_t1]; exact own_lo p0 p1 : ((k1 &&& (2097151 : Int64)).toInt32) = t1)).2 ?_
      show Steps p.tables e below (T177.setTop (mkF m 354 _ [])) target
      refine XS.aload X177.here hx rfl (hb hby at_354) rfl rfl ?_
      show Steps p.tables e below (T177.setTop (mkF m 356 _ [(.ref b179)])) target
      refine XS.iconst X177.here hx rfl (hb hby at_356) ?_
      show Steps p.tables e below (T177.setTop (mkF m 357 _ [(.int 1), (.ref b179)])) target
      refine X177.iaload hx (j := (1 : Int32)) (v := (.int (((k2.toUInt64 >>> ((21 : Int32) &&& 0x3f).toInt64.toUInt64).toInt64).toInt32))) Ar204.1 (State.isArrayOf_alike hZ.alike Ar204.2.1) Ar204.2.2 hin204 hat204 (g := (mkF m 357 #[.val (.int p0), .val (.int p1), .val (.int p2), .val (.int p3), .val (.int p4), .val (.int t1), .val (.int t2), .val (.long k1), .second, .val (.long k2), .second, .val (.int 0), .val (.ref b11), .val (.ref b26), .val (.ref b37), .val (.ref b48), .val (.ref b59), .val (.ref b70), .val (.ref b81), .val (.ref b92), .val (.ref b103), .val (.ref b114), .val (.ref b178), .val (.int 2), .val (.ref b179), .val (.ref b180)] [(.int 1), (.ref b179)])) rfl rfl (hb hby at_357) _ ?_
      show Steps p.tables e below (T177.setTop (mkF m 358 _ [(.int (((k2.toUInt64 >>> ((21 : Int32) &&& 0x3f).toInt64.toUInt64).toInt64).toInt32))])) target
      refine XS.iloadN X177.here hx rfl (hb hby at_358) rfl ?_
      show Steps p.tables e below (T177.setTop (mkF m 359 _ [(.int p2), (.int (((k2.toUInt64 >>> ((21 : Int32) &&& 0x3f).toInt64.toUInt64).toInt64).toInt32))])) target
      refine XS.icmpNo X177.here hx rfl (hb hby at_359) rfl (teq (by rw [h_k2]; exact own_hi p2 p3 : (((k2.toUInt64 >>> ((21 : Int32) &&& 0x3f).toInt64.toUInt64).toInt64).toInt32) = p2)).2 ?_
      show Steps p.tables e below (T177.setTop (mkF m 362 _ [])) target
      refine XS.aload X177.here hx rfl (hb hby at_362) rfl rfl ?_
      show Steps p.tables e below (T177.setTop (mkF m 364 _ [(.ref b180)])) target
      refine XS.iconst X177.here hx rfl (hb hby at_364) ?_
      show Steps p.tables e below (T177.setTop (mkF m 365 _ [(.int 1), (.ref b180)])) target
      refine X177.iaload hx (j := (1 : Int32)) (v := (.int ((k2 &&& (2097151 : Int64)).toInt32))) Ar205.1 (State.isArrayOf_alike hZ.alike Ar205.2.1) Ar205.2.2 hin205 hat205 (g := (mkF m 365 #[.val (.int p0), .val (.int p1), .val (.int p2), .val (.int p3), .val (.int p4), .val (.int t1), .val (.int t2), .val (.long k1), .second, .val (.long k2), .second, .val (.int 0), .val (.ref b11), .val (.ref b26), .val (.ref b37), .val (.ref b48), .val (.ref b59), .val (.ref b70), .val (.ref b81), .val (.ref b92), .val (.ref b103), .val (.ref b114), .val (.ref b178), .val (.int 2), .val (.ref b179), .val (.ref b180)] [(.int 1), (.ref b180)])) rfl rfl (hb hby at_365) _ ?_
      show Steps p.tables e below (T177.setTop (mkF m 366 _ [(.int ((k2 &&& (2097151 : Int64)).toInt32))])) target
      refine XS.iload X177.here hx rfl (hb hby at_366) rfl ?_
      show Steps p.tables e below (T177.setTop (mkF m 368 _ [(.int t2), (.int ((k2 &&& (2097151 : Int64)).toInt32))])) target
      refine XS.icmpNo X177.here hx rfl (hb hby at_368) rfl (teq (by rw [h_k2, h_t2]; exact own_lo p2 p3 : ((k2 &&& (2097151 : Int64)).toInt32) = t2)).2 ?_
      show Steps p.tables e below (T177.setTop (mkF m 371 _ [])) target
      refine XS.aload X177.here hx rfl (hb hby at_371) rfl rfl ?_
      show Steps p.tables e below (T177.setTop (mkF m 373 _ [(.ref b11)])) target
      refine XS.iconst X177.here hx rfl (hb hby at_373) ?_
      show Steps p.tables e below (T177.setTop (mkF m 374 _ [(.int 0), (.ref b11)])) target
      refine X177.laload hx (j := (0 : Int32)) (v := (.long k1)) Ar207.1 (State.isArrayOf_alike hZ.alike Ar207.2.1) Ar207.2.2 hin207 hat207 (g := (mkF m 374 #[.val (.int p0), .val (.int p1), .val (.int p2), .val (.int p3), .val (.int p4), .val (.int t1), .val (.int t2), .val (.long k1), .second, .val (.long k2), .second, .val (.int 0), .val (.ref b11), .val (.ref b26), .val (.ref b37), .val (.ref b48), .val (.ref b59), .val (.ref b70), .val (.ref b81), .val (.ref b92), .val (.ref b103), .val (.ref b114), .val (.ref b178), .val (.int 2), .val (.ref b179), .val (.ref b180)] [(.int 0), (.ref b11)])) rfl rfl (hb hby at_374) _ ?_
      show Steps p.tables e below (T177.setTop (mkF m 375 _ [(.long k1)])) target
      refine XS.lload X177.here hx rfl (hb hby at_375) rfl ?_
      show Steps p.tables e below (T177.setTop (mkF m 377 _ [(.long k1), (.long k1)])) target
      refine XS.lcmp X177.here hx rfl (hb hby at_377) rfl ?_
      show Steps p.tables e below (T177.setTop (mkF m 378 _ [(.int (lcmpW k1 k1))])) target
      refine XS.ifNo X177.here hx rfl (hb hby at_378) rfl ((if0 _ _).trans (teq ((lw_eq k1 k1).2 rfl)).2) ?_
      show Steps p.tables e below (T177.setTop (mkF m 381 _ [])) target
      refine XS.aload X177.here hx rfl (hb hby at_381) rfl rfl ?_
      show Steps p.tables e below (T177.setTop (mkF m 383 _ [(.ref b11)])) target
      refine XS.iconst X177.here hx rfl (hb hby at_383) ?_
      show Steps p.tables e below (T177.setTop (mkF m 384 _ [(.int 1), (.ref b11)])) target
      refine X177.laload hx (j := (1 : Int32)) (v := (.long k2)) Ar208.1 (State.isArrayOf_alike hZ.alike Ar208.2.1) Ar208.2.2 hin208 hat208 (g := (mkF m 384 #[.val (.int p0), .val (.int p1), .val (.int p2), .val (.int p3), .val (.int p4), .val (.int t1), .val (.int t2), .val (.long k1), .second, .val (.long k2), .second, .val (.int 0), .val (.ref b11), .val (.ref b26), .val (.ref b37), .val (.ref b48), .val (.ref b59), .val (.ref b70), .val (.ref b81), .val (.ref b92), .val (.ref b103), .val (.ref b114), .val (.ref b178), .val (.int 2), .val (.ref b179), .val (.ref b180)] [(.int 1), (.ref b11)])) rfl rfl (hb hby at_384) _ ?_
      show Steps p.tables e below (T177.setTop (mkF m 385 _ [(.long k2)])) target
      refine XS.lload X177.here hx rfl (hb hby at_385) rfl ?_
      show Steps p.tables e below (T177.setTop (mkF m 387 _ [(.long k2), (.long k2)])) target
      refine XS.lcmp X177.here hx rfl (hb hby at_387) rfl ?_
      show Steps p.tables e below (T177.setTop (mkF m 388 _ [(.int (lcmpW k2 k2))])) target
      refine XS.ifNo X177.here hx rfl (hb hby at_388) rfl ((if0 _ _).trans (teq ((lw_eq k2 k2).2 rfl)).2) ?_
      show Steps p.tables e below (T177.setTop (mkF m 391 _ [])) target
      refine XS.iconst X177.here hx rfl (hb hby at_391) ?_
      show Steps p.tables e below (T177.setTop (mkF m 392 _ [(.int 1)])) target
      refine XS.goto X177.here hx rfl (pc0 := 392) (pc' := 396) rfl (hb hby at_392) (by decide) (by decide) ?_
      exact kt
    refine Go.ret X177 (v := some (.int 1)) (fun h => by rw [hret] at h; cases h) hlk (fun fs hr => retN X177 hx (t := .boolean) hret (by simp) (hb hby at_396) hr) ?_ (by decide) (by decide)
    show Q0 Z p0 p1 p2 p3 p4 h0 n0 _ T177.heap _
    exact ⟨rfl, N177, K187⟩
  · refine Go.st (t' := s₁.setTop (mkF m 56 #[.val (.int p0), .val (.int p1), .val (.int p2), .val (.int p3), .val (.int p4), .val (.int t1), .val (.int t2), .val (.long k1), .second, .val (.long k2), .second, .val (.int 1), .unset, .unset, .unset, .unset, .unset, .unset, .unset, .unset, .unset, .unset, .unset, .unset, .unset, .unset] [(.int 0)])) (fun target kt => ?_) ?_
    · refine XS.ifNo X0.here hx rfl (hb hby at_40) rfl ((if0 _ _).trans (feq hc10).1) ?_
      show Steps p.tables e below (s₁.setTop (mkF m 43 _ [])) target
      refine XS.iconst X0.here hx rfl (hb hby at_43) ?_
      show Steps p.tables e below (s₁.setTop (mkF m 44 _ [(.int 1)])) target
      refine XS.goto X0.here hx rfl (pc0 := 44) (pc' := 48) rfl (hb hby at_44) (by decide) (by decide) ?_
      show Steps p.tables e below (s₁.setTop (mkF m 48 _ [(.int 1)])) target
      refine XS.istore X0.here hx rfl (hb hby at_48) rfl (l' := #[.val (.int p0), .val (.int p1), .val (.int p2), .val (.int p3), .val (.int p4), .val (.int t1), .val (.int t2), .val (.long k1), .second, .val (.long k2), .second, .val (.int 1), .unset, .unset, .unset, .unset, .unset, .unset, .unset, .unset, .unset, .unset, .unset, .unset, .unset, .unset]) rfl ?_
      show Steps p.tables e below (s₁.setTop (mkF m 50 _ [])) target
      refine XS.iload X0.here hx rfl (hb hby at_50) rfl ?_
      show Steps p.tables e below (s₁.setTop (mkF m 52 _ [(.int 1)])) target
      refine XS.ifNo X0.here hx rfl (hb hby at_52) rfl ((if0 _ _).trans (feq (by decide : ¬ ((1 : Int32) = (0 : Int32)))).1) ?_
      show Steps p.tables e below (s₁.setTop (mkF m 55 _ [])) target
      refine XS.iconst X0.here hx rfl (hb hby at_55) ?_
      exact kt
    obtain ⟨T209, h209, k209, X209, e209, E209, A209, B209, st209⟩ := newPE (aty := .long) X0 hx hZ (hw _ tw2) e0 (g := (mkF m 56 #[.val (.int p0), .val (.int p1), .val (.int p2), .val (.int p3), .val (.int p4), .val (.int t1), .val (.int t2), .val (.long k1), .second, .val (.long k2), .second, .val (.int 1), .unset, .unset, .unset, .unset, .unset, .unset, .unset, .unset, .unset, .unset, .unset, .unset, .unset, .unset] [(.int 0)])) rfl (hb hby at_56) rfl (by decide) (cap := 0) (by decide) (by decide) (by decide) (by decide) (ad := "[J") (by decide)
    obtain ⟨b209, g209⟩ : ∃ z, z = h0.size := ⟨_, rfl⟩
    rw [← g209] at A209 B209 st209
    have lb210 : h0.size ≤ b209 := Nat.le_of_eq g209.symm
    have sz211 : h0.size ≤ b209 := Nat.le_trans K0.1 lb210
    have g212 : n0 ≤ b209 := Nat.le_trans Z0 sz211
    have K213 := K0.ext E209
    have O214 := O0.ext E209
    have V215 : Arv Z h209 b209 k209 .long (0 : Int32) [] (.long (0 : Int64)) := (Arv.new A209 (by decide)).pad (pad_rep [] (.long (0 : Int64)) 0)
    refine Go.st st209 ?_
    show Go _ _ _ _ _ _ _ (T209.setTop (mkF m 58 _ [(.ref b209)]))
    refine Go.st (t' := T209.setTop (mkF m 77 #[.val (.int p0), .val (.int p1), .val (.int p2), .val (.int p3), .val (.int p4), .val (.int t1), .val (.int t2), .val (.long k1), .second, .val (.long k2), .second, .val (.int 1), .val (.ref b209), .unset, .unset, .unset, .unset, .unset, .unset, .unset, .unset, .unset, .unset, .unset, .unset, .unset] [(.int 1)])) (fun target kt => ?_) ?_
    · refine XS.goto X209.here hx rfl (pc0 := 58) (pc' := 74) rfl (hb hby at_58) (by decide) (by decide) ?_
      show Steps p.tables e below (T209.setTop (mkF m 74 _ [(.ref b209)])) target
      refine XS.astore X209.here hx rfl (hb hby at_74) rfl rfl (l' := #[.val (.int p0), .val (.int p1), .val (.int p2), .val (.int p3), .val (.int p4), .val (.int t1), .val (.int t2), .val (.long k1), .second, .val (.long k2), .second, .val (.int 1), .val (.ref b209), .unset, .unset, .unset, .unset, .unset, .unset, .unset, .unset, .unset, .unset, .unset, .unset, .unset]) rfl ?_
      show Steps p.tables e below (T209.setTop (mkF m 76 _ [])) target
      refine XS.iconst X209.here hx rfl (hb hby at_76) ?_
      exact kt
    obtain ⟨T216, h216, k216, X216, e216, E216, A216, B216, st216⟩ := newPE (aty := .int) X209 hx hZ (hw _ tw3) e209 (g := (mkF m 77 #[.val (.int p0), .val (.int p1), .val (.int p2), .val (.int p3), .val (.int p4), .val (.int t1), .val (.int t2), .val (.long k1), .second, .val (.long k2), .second, .val (.int 1), .val (.ref b209), .unset, .unset, .unset, .unset, .unset, .unset, .unset, .unset, .unset, .unset, .unset, .unset, .unset] [(.int 1)])) rfl (hb hby at_77) rfl (by decide) (cap := 1) (by decide) (by decide) (by decide) (by decide) (ad := "[I") (by decide)
    obtain ⟨b216, g216⟩ : ∃ z, z = h209.size := ⟨_, rfl⟩
    rw [← g216] at A216 B216 st216
    have lb217 : h209.size ≤ b216 := Nat.le_of_eq g216.symm
    have sz218 : h0.size ≤ b216 := Nat.le_trans K213.1 lb217
    have g219 : n0 ≤ b216 := Nat.le_trans Z0 sz218
    have K220 := K213.ext E216
    have O221 := O214.ext E216
    have V222 : Arv Z h216 b216 k216 .int (1 : Int32) [(.int 0)] (.int 0) := (Arv.new A216 (by decide)).pad (pad_rep [] (.int 0) 1)
    refine Go.st st216 ?_
    show Go _ _ _ _ _ _ _ (T216.setTop (mkF m 79 _ [(.ref b216)]))
    refine Go.st (t' := T216.setTop (mkF m 82 #[.val (.int p0), .val (.int p1), .val (.int p2), .val (.int p3), .val (.int p4), .val (.int t1), .val (.int t2), .val (.long k1), .second, .val (.long k2), .second, .val (.int 1), .val (.ref b209), .unset, .unset, .unset, .unset, .unset, .unset, .unset, .unset, .unset, .unset, .unset, .unset, .unset] [(.int 1), (.int 0), (.ref b216), (.ref b216)])) (fun target kt => ?_) ?_
    · refine XS.dup X216.here hx rfl (hb hby at_79) rfl rfl ?_
      show Steps p.tables e below (T216.setTop (mkF m 80 _ [(.ref b216), (.ref b216)])) target
      refine XS.iconst X216.here hx rfl (hb hby at_80) ?_
      show Steps p.tables e below (T216.setTop (mkF m 81 _ [(.int 0), (.ref b216), (.ref b216)])) target
      refine XS.iconst X216.here hx rfl (hb hby at_81) ?_
      exact kt
    obtain ⟨cl223, Ar223, q223, S223, M223, H223, G223⟩ := id V222
    have hin223 : ¬ ((0 : Int32) < 0 ∨ cl223.slots.size ≤ ((0 : Int32)).toNatClampNeg) := inb_of S223 ⟨by decide, by decide⟩
    obtain ⟨T223, h223, X223, e223, W223, st223⟩ := stI X216 hx hZ e216 Ar223 (j := (0 : Int32)) hin223 (g := (mkF m 82 #[.val (.int p0), .val (.int p1), .val (.int p2), .val (.int p3), .val (.int p4), .val (.int t1), .val (.int t2), .val (.long k1), .second, .val (.long k2), .second, .val (.int 1), .val (.ref b209), .unset, .unset, .unset, .unset, .unset, .unset, .unset, .unset, .unset, .unset, .unset, .unset, .unset] [(.int 1), (.int 0), (.ref b216), (.ref b216)])) rfl rfl (hb hby at_82)
    have V224 : Arv Z h223 b216 k216 .int (1 : Int32) [(.int 1)] (.int 0) := Arv.set Ar223 q223 S223 M223 H223 G223 rfl W223 0 rfl (Nat.le_of_ble_eq_true rfl)
    have K225 := K220.wr W223 (Or.inr sz218)
    have O226 := O221.wr W223 g219
    have N223 := Fr.snoc X223 N0 g219
    refine Go.st st223 ?_
    show Go _ _ _ _ _ _ _ (T223.setTop (mkF m 83 _ [(.ref b216)]))
    refine Go.st (t' := T223.setTop (mkF m 86 #[.val (.int p0), .val (.int p1), .val (.int p2), .val (.int p3), .val (.int p4), .val (.int t1), .val (.int t2), .val (.long k1), .second, .val (.long k2), .second, .val (.int 1), .val (.ref b209), .val (.ref b216), .unset, .unset, .unset, .unset, .unset, .unset, .unset, .unset, .unset, .unset, .unset, .unset] [(.int 1)])) (fun target kt => ?_) ?_
    · refine XS.astore X223.here hx rfl (hb hby at_83) rfl rfl (l' := #[.val (.int p0), .val (.int p1), .val (.int p2), .val (.int p3), .val (.int p4), .val (.int t1), .val (.int t2), .val (.long k1), .second, .val (.long k2), .second, .val (.int 1), .val (.ref b209), .val (.ref b216), .unset, .unset, .unset, .unset, .unset, .unset, .unset, .unset, .unset, .unset, .unset, .unset]) rfl ?_
      show Steps p.tables e below (T223.setTop (mkF m 85 _ [])) target
      refine XS.iconst X223.here hx rfl (hb hby at_85) ?_
      exact kt
    obtain ⟨T227, h227, k227, X227, e227, E227, A227, B227, st227⟩ := newPE (aty := .int) X223 hx hZ (hw _ tw3) e223 (g := (mkF m 86 #[.val (.int p0), .val (.int p1), .val (.int p2), .val (.int p3), .val (.int p4), .val (.int t1), .val (.int t2), .val (.long k1), .second, .val (.long k2), .second, .val (.int 1), .val (.ref b209), .val (.ref b216), .unset, .unset, .unset, .unset, .unset, .unset, .unset, .unset, .unset, .unset, .unset, .unset] [(.int 1)])) rfl (hb hby at_86) rfl (by decide) (cap := 1) (by decide) (by decide) (by decide) (by decide) (ad := "[I") (by decide)
    obtain ⟨b227, g227⟩ : ∃ z, z = h223.size := ⟨_, rfl⟩
    rw [← g227] at A227 B227 st227
    have lb228 : h223.size ≤ b227 := Nat.le_of_eq g227.symm
    have sz229 : h0.size ≤ b227 := Nat.le_trans K225.1 lb228
    have g230 : n0 ≤ b227 := Nat.le_trans Z0 sz229
    have K231 := K225.ext E227
    have O232 := O226.ext E227
    have V233 : Arv Z h227 b227 k227 .int (1 : Int32) [(.int 0)] (.int 0) := (Arv.new A227 (by decide)).pad (pad_rep [] (.int 0) 1)
    refine Go.st st227 ?_
    show Go _ _ _ _ _ _ _ (T227.setTop (mkF m 88 _ [(.ref b227)]))
    refine Go.st (t' := T227.setTop (mkF m 91 #[.val (.int p0), .val (.int p1), .val (.int p2), .val (.int p3), .val (.int p4), .val (.int t1), .val (.int t2), .val (.long k1), .second, .val (.long k2), .second, .val (.int 1), .val (.ref b209), .val (.ref b216), .unset, .unset, .unset, .unset, .unset, .unset, .unset, .unset, .unset, .unset, .unset, .unset] [(.int 2), (.int 0), (.ref b227), (.ref b227)])) (fun target kt => ?_) ?_
    · refine XS.dup X227.here hx rfl (hb hby at_88) rfl rfl ?_
      show Steps p.tables e below (T227.setTop (mkF m 89 _ [(.ref b227), (.ref b227)])) target
      refine XS.iconst X227.here hx rfl (hb hby at_89) ?_
      show Steps p.tables e below (T227.setTop (mkF m 90 _ [(.int 0), (.ref b227), (.ref b227)])) target
      refine XS.iconst X227.here hx rfl (hb hby at_90) ?_
      exact kt
    obtain ⟨cl234, Ar234, q234, S234, M234, H234, G234⟩ := id V233
    have hin234 : ¬ ((0 : Int32) < 0 ∨ cl234.slots.size ≤ ((0 : Int32)).toNatClampNeg) := inb_of S234 ⟨by decide, by decide⟩
    obtain ⟨T234, h234, X234, e234, W234, st234⟩ := stI X227 hx hZ e227 Ar234 (j := (0 : Int32)) hin234 (g := (mkF m 91 #[.val (.int p0), .val (.int p1), .val (.int p2), .val (.int p3), .val (.int p4), .val (.int t1), .val (.int t2), .val (.long k1), .second, .val (.long k2), .second, .val (.int 1), .val (.ref b209), .val (.ref b216), .unset, .unset, .unset, .unset, .unset, .unset, .unset, .unset, .unset, .unset, .unset, .unset] [(.int 2), (.int 0), (.ref b227), (.ref b227)])) rfl rfl (hb hby at_91)
    have V235 : Arv Z h234 b227 k227 .int (1 : Int32) [(.int 2)] (.int 0) := Arv.set Ar234 q234 S234 M234 H234 G234 rfl W234 0 rfl (Nat.le_of_ble_eq_true rfl)
    have K236 := K231.wr W234 (Or.inr sz229)
    have O237 := O232.wr W234 g230
    have N234 := Fr.snoc X234 N223 g230
    refine Go.st st234 ?_
    show Go _ _ _ _ _ _ _ (T234.setTop (mkF m 92 _ [(.ref b227)]))
    refine Go.st (t' := T234.setTop (mkF m 95 #[.val (.int p0), .val (.int p1), .val (.int p2), .val (.int p3), .val (.int p4), .val (.int t1), .val (.int t2), .val (.long k1), .second, .val (.long k2), .second, .val (.int 1), .val (.ref b209), .val (.ref b216), .val (.ref b227), .unset, .unset, .unset, .unset, .unset, .unset, .unset, .unset, .unset, .unset, .unset] [(.int 1)])) (fun target kt => ?_) ?_
    · refine XS.astore X234.here hx rfl (hb hby at_92) rfl rfl (l' := #[.val (.int p0), .val (.int p1), .val (.int p2), .val (.int p3), .val (.int p4), .val (.int t1), .val (.int t2), .val (.long k1), .second, .val (.long k2), .second, .val (.int 1), .val (.ref b209), .val (.ref b216), .val (.ref b227), .unset, .unset, .unset, .unset, .unset, .unset, .unset, .unset, .unset, .unset, .unset]) rfl ?_
      show Steps p.tables e below (T234.setTop (mkF m 94 _ [])) target
      refine XS.iconst X234.here hx rfl (hb hby at_94) ?_
      exact kt
    obtain ⟨T238, h238, k238, X238, e238, E238, A238, B238, st238⟩ := newPE (aty := .int) X234 hx hZ (hw _ tw3) e234 (g := (mkF m 95 #[.val (.int p0), .val (.int p1), .val (.int p2), .val (.int p3), .val (.int p4), .val (.int t1), .val (.int t2), .val (.long k1), .second, .val (.long k2), .second, .val (.int 1), .val (.ref b209), .val (.ref b216), .val (.ref b227), .unset, .unset, .unset, .unset, .unset, .unset, .unset, .unset, .unset, .unset, .unset] [(.int 1)])) rfl (hb hby at_95) rfl (by decide) (cap := 1) (by decide) (by decide) (by decide) (by decide) (ad := "[I") (by decide)
    obtain ⟨b238, g238⟩ : ∃ z, z = h234.size := ⟨_, rfl⟩
    rw [← g238] at A238 B238 st238
    have lb239 : h234.size ≤ b238 := Nat.le_of_eq g238.symm
    have sz240 : h0.size ≤ b238 := Nat.le_trans K236.1 lb239
    have g241 : n0 ≤ b238 := Nat.le_trans Z0 sz240
    have K242 := K236.ext E238
    have O243 := O237.ext E238
    have V244 : Arv Z h238 b238 k238 .int (1 : Int32) [(.int 0)] (.int 0) := (Arv.new A238 (by decide)).pad (pad_rep [] (.int 0) 1)
    refine Go.st st238 ?_
    show Go _ _ _ _ _ _ _ (T238.setTop (mkF m 97 _ [(.ref b238)]))
    refine Go.st (t' := T238.setTop (mkF m 100 #[.val (.int p0), .val (.int p1), .val (.int p2), .val (.int p3), .val (.int p4), .val (.int t1), .val (.int t2), .val (.long k1), .second, .val (.long k2), .second, .val (.int 1), .val (.ref b209), .val (.ref b216), .val (.ref b227), .unset, .unset, .unset, .unset, .unset, .unset, .unset, .unset, .unset, .unset, .unset] [(.int 3), (.int 0), (.ref b238), (.ref b238)])) (fun target kt => ?_) ?_
    · refine XS.dup X238.here hx rfl (hb hby at_97) rfl rfl ?_
      show Steps p.tables e below (T238.setTop (mkF m 98 _ [(.ref b238), (.ref b238)])) target
      refine XS.iconst X238.here hx rfl (hb hby at_98) ?_
      show Steps p.tables e below (T238.setTop (mkF m 99 _ [(.int 0), (.ref b238), (.ref b238)])) target
      refine XS.iconst X238.here hx rfl (hb hby at_99) ?_
      exact kt
    obtain ⟨cl245, Ar245, q245, S245, M245, H245, G245⟩ := id V244
    have hin245 : ¬ ((0 : Int32) < 0 ∨ cl245.slots.size ≤ ((0 : Int32)).toNatClampNeg) := inb_of S245 ⟨by decide, by decide⟩
    obtain ⟨T245, h245, X245, e245, W245, st245⟩ := stI X238 hx hZ e238 Ar245 (j := (0 : Int32)) hin245 (g := (mkF m 100 #[.val (.int p0), .val (.int p1), .val (.int p2), .val (.int p3), .val (.int p4), .val (.int t1), .val (.int t2), .val (.long k1), .second, .val (.long k2), .second, .val (.int 1), .val (.ref b209), .val (.ref b216), .val (.ref b227), .unset, .unset, .unset, .unset, .unset, .unset, .unset, .unset, .unset, .unset, .unset] [(.int 3), (.int 0), (.ref b238), (.ref b238)])) rfl rfl (hb hby at_100)
    have V246 : Arv Z h245 b238 k238 .int (1 : Int32) [(.int 3)] (.int 0) := Arv.set Ar245 q245 S245 M245 H245 G245 rfl W245 0 rfl (Nat.le_of_ble_eq_true rfl)
    have K247 := K242.wr W245 (Or.inr sz240)
    have O248 := O243.wr W245 g241
    have N245 := Fr.snoc X245 N234 g241
    refine Go.st st245 ?_
    show Go _ _ _ _ _ _ _ (T245.setTop (mkF m 101 _ [(.ref b238)]))
    refine Go.st (t' := T245.setTop (mkF m 104 #[.val (.int p0), .val (.int p1), .val (.int p2), .val (.int p3), .val (.int p4), .val (.int t1), .val (.int t2), .val (.long k1), .second, .val (.long k2), .second, .val (.int 1), .val (.ref b209), .val (.ref b216), .val (.ref b227), .val (.ref b238), .unset, .unset, .unset, .unset, .unset, .unset, .unset, .unset, .unset, .unset] [(.int 1)])) (fun target kt => ?_) ?_
    · refine XS.astore X245.here hx rfl (hb hby at_101) rfl rfl (l' := #[.val (.int p0), .val (.int p1), .val (.int p2), .val (.int p3), .val (.int p4), .val (.int t1), .val (.int t2), .val (.long k1), .second, .val (.long k2), .second, .val (.int 1), .val (.ref b209), .val (.ref b216), .val (.ref b227), .val (.ref b238), .unset, .unset, .unset, .unset, .unset, .unset, .unset, .unset, .unset, .unset]) rfl ?_
      show Steps p.tables e below (T245.setTop (mkF m 103 _ [])) target
      refine XS.iconst X245.here hx rfl (hb hby at_103) ?_
      exact kt
    obtain ⟨T249, h249, k249, X249, e249, E249, A249, B249, st249⟩ := newPE (aty := .int) X245 hx hZ (hw _ tw3) e245 (g := (mkF m 104 #[.val (.int p0), .val (.int p1), .val (.int p2), .val (.int p3), .val (.int p4), .val (.int t1), .val (.int t2), .val (.long k1), .second, .val (.long k2), .second, .val (.int 1), .val (.ref b209), .val (.ref b216), .val (.ref b227), .val (.ref b238), .unset, .unset, .unset, .unset, .unset, .unset, .unset, .unset, .unset, .unset] [(.int 1)])) rfl (hb hby at_104) rfl (by decide) (cap := 1) (by decide) (by decide) (by decide) (by decide) (ad := "[I") (by decide)
    obtain ⟨b249, g249⟩ : ∃ z, z = h245.size := ⟨_, rfl⟩
    rw [← g249] at A249 B249 st249
    have lb250 : h245.size ≤ b249 := Nat.le_of_eq g249.symm
    have sz251 : h0.size ≤ b249 := Nat.le_trans K247.1 lb250
    have g252 : n0 ≤ b249 := Nat.le_trans Z0 sz251
    have K253 := K247.ext E249
    have O254 := O248.ext E249
    have V255 : Arv Z h249 b249 k249 .int (1 : Int32) [(.int 0)] (.int 0) := (Arv.new A249 (by decide)).pad (pad_rep [] (.int 0) 1)
    refine Go.st st249 ?_
    show Go _ _ _ _ _ _ _ (T249.setTop (mkF m 106 _ [(.ref b249)]))
    refine Go.st (t' := T249.setTop (mkF m 109 #[.val (.int p0), .val (.int p1), .val (.int p2), .val (.int p3), .val (.int p4), .val (.int t1), .val (.int t2), .val (.long k1), .second, .val (.long k2), .second, .val (.int 1), .val (.ref b209), .val (.ref b216), .val (.ref b227), .val (.ref b238), .unset, .unset, .unset, .unset, .unset, .unset, .unset, .unset, .unset, .unset] [(.int 4), (.int 0), (.ref b249), (.ref b249)])) (fun target kt => ?_) ?_
    · refine XS.dup X249.here hx rfl (hb hby at_106) rfl rfl ?_
      show Steps p.tables e below (T249.setTop (mkF m 107 _ [(.ref b249), (.ref b249)])) target
      refine XS.iconst X249.here hx rfl (hb hby at_107) ?_
      show Steps p.tables e below (T249.setTop (mkF m 108 _ [(.int 0), (.ref b249), (.ref b249)])) target
      refine XS.iconst X249.here hx rfl (hb hby at_108) ?_
      exact kt
    obtain ⟨cl256, Ar256, q256, S256, M256, H256, G256⟩ := id V255
    have hin256 : ¬ ((0 : Int32) < 0 ∨ cl256.slots.size ≤ ((0 : Int32)).toNatClampNeg) := inb_of S256 ⟨by decide, by decide⟩
    obtain ⟨T256, h256, X256, e256, W256, st256⟩ := stI X249 hx hZ e249 Ar256 (j := (0 : Int32)) hin256 (g := (mkF m 109 #[.val (.int p0), .val (.int p1), .val (.int p2), .val (.int p3), .val (.int p4), .val (.int t1), .val (.int t2), .val (.long k1), .second, .val (.long k2), .second, .val (.int 1), .val (.ref b209), .val (.ref b216), .val (.ref b227), .val (.ref b238), .unset, .unset, .unset, .unset, .unset, .unset, .unset, .unset, .unset, .unset] [(.int 4), (.int 0), (.ref b249), (.ref b249)])) rfl rfl (hb hby at_109)
    have V257 : Arv Z h256 b249 k249 .int (1 : Int32) [(.int 4)] (.int 0) := Arv.set Ar256 q256 S256 M256 H256 G256 rfl W256 0 rfl (Nat.le_of_ble_eq_true rfl)
    have K258 := K253.wr W256 (Or.inr sz251)
    have O259 := O254.wr W256 g252
    have N256 := Fr.snoc X256 N245 g252
    refine Go.st st256 ?_
    show Go _ _ _ _ _ _ _ (T256.setTop (mkF m 110 _ [(.ref b249)]))
    refine Go.st (t' := T256.setTop (mkF m 113 #[.val (.int p0), .val (.int p1), .val (.int p2), .val (.int p3), .val (.int p4), .val (.int t1), .val (.int t2), .val (.long k1), .second, .val (.long k2), .second, .val (.int 1), .val (.ref b209), .val (.ref b216), .val (.ref b227), .val (.ref b238), .val (.ref b249), .unset, .unset, .unset, .unset, .unset, .unset, .unset, .unset, .unset] [(.int 1)])) (fun target kt => ?_) ?_
    · refine XS.astore X256.here hx rfl (hb hby at_110) rfl rfl (l' := #[.val (.int p0), .val (.int p1), .val (.int p2), .val (.int p3), .val (.int p4), .val (.int t1), .val (.int t2), .val (.long k1), .second, .val (.long k2), .second, .val (.int 1), .val (.ref b209), .val (.ref b216), .val (.ref b227), .val (.ref b238), .val (.ref b249), .unset, .unset, .unset, .unset, .unset, .unset, .unset, .unset, .unset]) rfl ?_
      show Steps p.tables e below (T256.setTop (mkF m 112 _ [])) target
      refine XS.iconst X256.here hx rfl (hb hby at_112) ?_
      exact kt
    obtain ⟨T260, h260, k260, X260, e260, E260, A260, B260, st260⟩ := newPE (aty := .int) X256 hx hZ (hw _ tw3) e256 (g := (mkF m 113 #[.val (.int p0), .val (.int p1), .val (.int p2), .val (.int p3), .val (.int p4), .val (.int t1), .val (.int t2), .val (.long k1), .second, .val (.long k2), .second, .val (.int 1), .val (.ref b209), .val (.ref b216), .val (.ref b227), .val (.ref b238), .val (.ref b249), .unset, .unset, .unset, .unset, .unset, .unset, .unset, .unset, .unset] [(.int 1)])) rfl (hb hby at_113) rfl (by decide) (cap := 1) (by decide) (by decide) (by decide) (by decide) (ad := "[I") (by decide)
    obtain ⟨b260, g260⟩ : ∃ z, z = h256.size := ⟨_, rfl⟩
    rw [← g260] at A260 B260 st260
    have lb261 : h256.size ≤ b260 := Nat.le_of_eq g260.symm
    have sz262 : h0.size ≤ b260 := Nat.le_trans K258.1 lb261
    have g263 : n0 ≤ b260 := Nat.le_trans Z0 sz262
    have K264 := K258.ext E260
    have O265 := O259.ext E260
    have V266 : Arv Z h260 b260 k260 .int (1 : Int32) [(.int 0)] (.int 0) := (Arv.new A260 (by decide)).pad (pad_rep [] (.int 0) 1)
    refine Go.st st260 ?_
    show Go _ _ _ _ _ _ _ (T260.setTop (mkF m 115 _ [(.ref b260)]))
    refine Go.st (t' := T260.setTop (mkF m 118 #[.val (.int p0), .val (.int p1), .val (.int p2), .val (.int p3), .val (.int p4), .val (.int t1), .val (.int t2), .val (.long k1), .second, .val (.long k2), .second, .val (.int 1), .val (.ref b209), .val (.ref b216), .val (.ref b227), .val (.ref b238), .val (.ref b249), .unset, .unset, .unset, .unset, .unset, .unset, .unset, .unset, .unset] [(.int 5), (.int 0), (.ref b260), (.ref b260)])) (fun target kt => ?_) ?_
    · refine XS.dup X260.here hx rfl (hb hby at_115) rfl rfl ?_
      show Steps p.tables e below (T260.setTop (mkF m 116 _ [(.ref b260), (.ref b260)])) target
      refine XS.iconst X260.here hx rfl (hb hby at_116) ?_
      show Steps p.tables e below (T260.setTop (mkF m 117 _ [(.int 0), (.ref b260), (.ref b260)])) target
      refine XS.iconst X260.here hx rfl (hb hby at_117) ?_
      exact kt
    obtain ⟨cl267, Ar267, q267, S267, M267, H267, G267⟩ := id V266
    have hin267 : ¬ ((0 : Int32) < 0 ∨ cl267.slots.size ≤ ((0 : Int32)).toNatClampNeg) := inb_of S267 ⟨by decide, by decide⟩
    obtain ⟨T267, h267, X267, e267, W267, st267⟩ := stI X260 hx hZ e260 Ar267 (j := (0 : Int32)) hin267 (g := (mkF m 118 #[.val (.int p0), .val (.int p1), .val (.int p2), .val (.int p3), .val (.int p4), .val (.int t1), .val (.int t2), .val (.long k1), .second, .val (.long k2), .second, .val (.int 1), .val (.ref b209), .val (.ref b216), .val (.ref b227), .val (.ref b238), .val (.ref b249), .unset, .unset, .unset, .unset, .unset, .unset, .unset, .unset, .unset] [(.int 5), (.int 0), (.ref b260), (.ref b260)])) rfl rfl (hb hby at_118)
    have V268 : Arv Z h267 b260 k260 .int (1 : Int32) [(.int 5)] (.int 0) := Arv.set Ar267 q267 S267 M267 H267 G267 rfl W267 0 rfl (Nat.le_of_ble_eq_true rfl)
    have K269 := K264.wr W267 (Or.inr sz262)
    have O270 := O265.wr W267 g263
    have N267 := Fr.snoc X267 N256 g263
    refine Go.st st267 ?_
    show Go _ _ _ _ _ _ _ (T267.setTop (mkF m 119 _ [(.ref b260)]))
    refine Go.st (t' := T267.setTop (mkF m 122 #[.val (.int p0), .val (.int p1), .val (.int p2), .val (.int p3), .val (.int p4), .val (.int t1), .val (.int t2), .val (.long k1), .second, .val (.long k2), .second, .val (.int 1), .val (.ref b209), .val (.ref b216), .val (.ref b227), .val (.ref b238), .val (.ref b249), .val (.ref b260), .unset, .unset, .unset, .unset, .unset, .unset, .unset, .unset] [(.int 1)])) (fun target kt => ?_) ?_
    · refine XS.astore X267.here hx rfl (hb hby at_119) rfl rfl (l' := #[.val (.int p0), .val (.int p1), .val (.int p2), .val (.int p3), .val (.int p4), .val (.int t1), .val (.int t2), .val (.long k1), .second, .val (.long k2), .second, .val (.int 1), .val (.ref b209), .val (.ref b216), .val (.ref b227), .val (.ref b238), .val (.ref b249), .val (.ref b260), .unset, .unset, .unset, .unset, .unset, .unset, .unset, .unset]) rfl ?_
      show Steps p.tables e below (T267.setTop (mkF m 121 _ [])) target
      refine XS.iconst X267.here hx rfl (hb hby at_121) ?_
      exact kt
    obtain ⟨T271, h271, k271, X271, e271, E271, A271, B271, st271⟩ := newPE (aty := .int) X267 hx hZ (hw _ tw3) e267 (g := (mkF m 122 #[.val (.int p0), .val (.int p1), .val (.int p2), .val (.int p3), .val (.int p4), .val (.int t1), .val (.int t2), .val (.long k1), .second, .val (.long k2), .second, .val (.int 1), .val (.ref b209), .val (.ref b216), .val (.ref b227), .val (.ref b238), .val (.ref b249), .val (.ref b260), .unset, .unset, .unset, .unset, .unset, .unset, .unset, .unset] [(.int 1)])) rfl (hb hby at_122) rfl (by decide) (cap := 1) (by decide) (by decide) (by decide) (by decide) (ad := "[I") (by decide)
    obtain ⟨b271, g271⟩ : ∃ z, z = h267.size := ⟨_, rfl⟩
    rw [← g271] at A271 B271 st271
    have lb272 : h267.size ≤ b271 := Nat.le_of_eq g271.symm
    have sz273 : h0.size ≤ b271 := Nat.le_trans K269.1 lb272
    have g274 : n0 ≤ b271 := Nat.le_trans Z0 sz273
    have K275 := K269.ext E271
    have O276 := O270.ext E271
    have V277 : Arv Z h271 b271 k271 .int (1 : Int32) [(.int 0)] (.int 0) := (Arv.new A271 (by decide)).pad (pad_rep [] (.int 0) 1)
    refine Go.st st271 ?_
    show Go _ _ _ _ _ _ _ (T271.setTop (mkF m 124 _ [(.ref b271)]))
    refine Go.st (t' := T271.setTop (mkF m 128 #[.val (.int p0), .val (.int p1), .val (.int p2), .val (.int p3), .val (.int p4), .val (.int t1), .val (.int t2), .val (.long k1), .second, .val (.long k2), .second, .val (.int 1), .val (.ref b209), .val (.ref b216), .val (.ref b227), .val (.ref b238), .val (.ref b249), .val (.ref b260), .unset, .unset, .unset, .unset, .unset, .unset, .unset, .unset] [(.int 6), (.int 0), (.ref b271), (.ref b271)])) (fun target kt => ?_) ?_
    · refine XS.dup X271.here hx rfl (hb hby at_124) rfl rfl ?_
      show Steps p.tables e below (T271.setTop (mkF m 125 _ [(.ref b271), (.ref b271)])) target
      refine XS.iconst X271.here hx rfl (hb hby at_125) ?_
      show Steps p.tables e below (T271.setTop (mkF m 126 _ [(.int 0), (.ref b271), (.ref b271)])) target
      refine XS.bipush X271.here hx rfl (hb hby at_126) ?_
      exact kt
    obtain ⟨cl278, Ar278, q278, S278, M278, H278, G278⟩ := id V277
    have hin278 : ¬ ((0 : Int32) < 0 ∨ cl278.slots.size ≤ ((0 : Int32)).toNatClampNeg) := inb_of S278 ⟨by decide, by decide⟩
    obtain ⟨T278, h278, X278, e278, W278, st278⟩ := stI X271 hx hZ e271 Ar278 (j := (0 : Int32)) hin278 (g := (mkF m 128 #[.val (.int p0), .val (.int p1), .val (.int p2), .val (.int p3), .val (.int p4), .val (.int t1), .val (.int t2), .val (.long k1), .second, .val (.long k2), .second, .val (.int 1), .val (.ref b209), .val (.ref b216), .val (.ref b227), .val (.ref b238), .val (.ref b249), .val (.ref b260), .unset, .unset, .unset, .unset, .unset, .unset, .unset, .unset] [(.int 6), (.int 0), (.ref b271), (.ref b271)])) rfl rfl (hb hby at_128)
    have V279 : Arv Z h278 b271 k271 .int (1 : Int32) [(.int 6)] (.int 0) := Arv.set Ar278 q278 S278 M278 H278 G278 rfl W278 0 rfl (Nat.le_of_ble_eq_true rfl)
    have K280 := K275.wr W278 (Or.inr sz273)
    have O281 := O276.wr W278 g274
    have N278 := Fr.snoc X278 N267 g274
    refine Go.st st278 ?_
    show Go _ _ _ _ _ _ _ (T278.setTop (mkF m 129 _ [(.ref b271)]))
    refine Go.st (t' := T278.setTop (mkF m 132 #[.val (.int p0), .val (.int p1), .val (.int p2), .val (.int p3), .val (.int p4), .val (.int t1), .val (.int t2), .val (.long k1), .second, .val (.long k2), .second, .val (.int 1), .val (.ref b209), .val (.ref b216), .val (.ref b227), .val (.ref b238), .val (.ref b249), .val (.ref b260), .val (.ref b271), .unset, .unset, .unset, .unset, .unset, .unset, .unset] [(.int 1)])) (fun target kt => ?_) ?_
    · refine XS.astore X278.here hx rfl (hb hby at_129) rfl rfl (l' := #[.val (.int p0), .val (.int p1), .val (.int p2), .val (.int p3), .val (.int p4), .val (.int t1), .val (.int t2), .val (.long k1), .second, .val (.long k2), .second, .val (.int 1), .val (.ref b209), .val (.ref b216), .val (.ref b227), .val (.ref b238), .val (.ref b249), .val (.ref b260), .val (.ref b271), .unset, .unset, .unset, .unset, .unset, .unset, .unset]) rfl ?_
      show Steps p.tables e below (T278.setTop (mkF m 131 _ [])) target
      refine XS.iconst X278.here hx rfl (hb hby at_131) ?_
      exact kt
    obtain ⟨T282, h282, k282, X282, e282, E282, A282, B282, st282⟩ := newPE (aty := .int) X278 hx hZ (hw _ tw3) e278 (g := (mkF m 132 #[.val (.int p0), .val (.int p1), .val (.int p2), .val (.int p3), .val (.int p4), .val (.int t1), .val (.int t2), .val (.long k1), .second, .val (.long k2), .second, .val (.int 1), .val (.ref b209), .val (.ref b216), .val (.ref b227), .val (.ref b238), .val (.ref b249), .val (.ref b260), .val (.ref b271), .unset, .unset, .unset, .unset, .unset, .unset, .unset] [(.int 1)])) rfl (hb hby at_132) rfl (by decide) (cap := 1) (by decide) (by decide) (by decide) (by decide) (ad := "[I") (by decide)
    obtain ⟨b282, g282⟩ : ∃ z, z = h278.size := ⟨_, rfl⟩
    rw [← g282] at A282 B282 st282
    have lb283 : h278.size ≤ b282 := Nat.le_of_eq g282.symm
    have sz284 : h0.size ≤ b282 := Nat.le_trans K280.1 lb283
    have g285 : n0 ≤ b282 := Nat.le_trans Z0 sz284
    have K286 := K280.ext E282
    have O287 := O281.ext E282
    have V288 : Arv Z h282 b282 k282 .int (1 : Int32) [(.int 0)] (.int 0) := (Arv.new A282 (by decide)).pad (pad_rep [] (.int 0) 1)
    refine Go.st st282 ?_
    show Go _ _ _ _ _ _ _ (T282.setTop (mkF m 134 _ [(.ref b282)]))
    refine Go.st (t' := T282.setTop (mkF m 138 #[.val (.int p0), .val (.int p1), .val (.int p2), .val (.int p3), .val (.int p4), .val (.int t1), .val (.int t2), .val (.long k1), .second, .val (.long k2), .second, .val (.int 1), .val (.ref b209), .val (.ref b216), .val (.ref b227), .val (.ref b238), .val (.ref b249), .val (.ref b260), .val (.ref b271), .unset, .unset, .unset, .unset, .unset, .unset, .unset] [(.int 7), (.int 0), (.ref b282), (.ref b282)])) (fun target kt => ?_) ?_
    · refine XS.dup X282.here hx rfl (hb hby at_134) rfl rfl ?_
      show Steps p.tables e below (T282.setTop (mkF m 135 _ [(.ref b282), (.ref b282)])) target
      refine XS.iconst X282.here hx rfl (hb hby at_135) ?_
      show Steps p.tables e below (T282.setTop (mkF m 136 _ [(.int 0), (.ref b282), (.ref b282)])) target
      refine XS.bipush X282.here hx rfl (hb hby at_136) ?_
      exact kt
    obtain ⟨cl289, Ar289, q289, S289, M289, H289, G289⟩ := id V288
    have hin289 : ¬ ((0 : Int32) < 0 ∨ cl289.slots.size ≤ ((0 : Int32)).toNatClampNeg) := inb_of S289 ⟨by decide, by decide⟩
    obtain ⟨T289, h289, X289, e289, W289, st289⟩ := stI X282 hx hZ e282 Ar289 (j := (0 : Int32)) hin289 (g := (mkF m 138 #[.val (.int p0), .val (.int p1), .val (.int p2), .val (.int p3), .val (.int p4), .val (.int t1), .val (.int t2), .val (.long k1), .second, .val (.long k2), .second, .val (.int 1), .val (.ref b209), .val (.ref b216), .val (.ref b227), .val (.ref b238), .val (.ref b249), .val (.ref b260), .val (.ref b271), .unset, .unset, .unset, .unset, .unset, .unset, .unset] [(.int 7), (.int 0), (.ref b282), (.ref b282)])) rfl rfl (hb hby at_138)
    have V290 : Arv Z h289 b282 k282 .int (1 : Int32) [(.int 7)] (.int 0) := Arv.set Ar289 q289 S289 M289 H289 G289 rfl W289 0 rfl (Nat.le_of_ble_eq_true rfl)
    have K291 := K286.wr W289 (Or.inr sz284)
    have O292 := O287.wr W289 g285
    have N289 := Fr.snoc X289 N278 g285
    refine Go.st st289 ?_
    show Go _ _ _ _ _ _ _ (T289.setTop (mkF m 139 _ [(.ref b282)]))
    refine Go.st (t' := T289.setTop (mkF m 142 #[.val (.int p0), .val (.int p1), .val (.int p2), .val (.int p3), .val (.int p4), .val (.int t1), .val (.int t2), .val (.long k1), .second, .val (.long k2), .second, .val (.int 1), .val (.ref b209), .val (.ref b216), .val (.ref b227), .val (.ref b238), .val (.ref b249), .val (.ref b260), .val (.ref b271), .val (.ref b282), .unset, .unset, .unset, .unset, .unset, .unset] [(.int 1)])) (fun target kt => ?_) ?_
    · refine XS.astore X289.here hx rfl (hb hby at_139) rfl rfl (l' := #[.val (.int p0), .val (.int p1), .val (.int p2), .val (.int p3), .val (.int p4), .val (.int t1), .val (.int t2), .val (.long k1), .second, .val (.long k2), .second, .val (.int 1), .val (.ref b209), .val (.ref b216), .val (.ref b227), .val (.ref b238), .val (.ref b249), .val (.ref b260), .val (.ref b271), .val (.ref b282), .unset, .unset, .unset, .unset, .unset, .unset]) rfl ?_
      show Steps p.tables e below (T289.setTop (mkF m 141 _ [])) target
      refine XS.iconst X289.here hx rfl (hb hby at_141) ?_
      exact kt
    obtain ⟨T293, h293, k293, X293, e293, E293, A293, B293, st293⟩ := newPE (aty := .int) X289 hx hZ (hw _ tw3) e289 (g := (mkF m 142 #[.val (.int p0), .val (.int p1), .val (.int p2), .val (.int p3), .val (.int p4), .val (.int t1), .val (.int t2), .val (.long k1), .second, .val (.long k2), .second, .val (.int 1), .val (.ref b209), .val (.ref b216), .val (.ref b227), .val (.ref b238), .val (.ref b249), .val (.ref b260), .val (.ref b271), .val (.ref b282), .unset, .unset, .unset, .unset, .unset, .unset] [(.int 1)])) rfl (hb hby at_142) rfl (by decide) (cap := 1) (by decide) (by decide) (by decide) (by decide) (ad := "[I") (by decide)
    obtain ⟨b293, g293⟩ : ∃ z, z = h289.size := ⟨_, rfl⟩
    rw [← g293] at A293 B293 st293
    have lb294 : h289.size ≤ b293 := Nat.le_of_eq g293.symm
    have sz295 : h0.size ≤ b293 := Nat.le_trans K291.1 lb294
    have g296 : n0 ≤ b293 := Nat.le_trans Z0 sz295
    have K297 := K291.ext E293
    have O298 := O292.ext E293
    have V299 : Arv Z h293 b293 k293 .int (1 : Int32) [(.int 0)] (.int 0) := (Arv.new A293 (by decide)).pad (pad_rep [] (.int 0) 1)
    refine Go.st st293 ?_
    show Go _ _ _ _ _ _ _ (T293.setTop (mkF m 144 _ [(.ref b293)]))
    refine Go.st (t' := T293.setTop (mkF m 148 #[.val (.int p0), .val (.int p1), .val (.int p2), .val (.int p3), .val (.int p4), .val (.int t1), .val (.int t2), .val (.long k1), .second, .val (.long k2), .second, .val (.int 1), .val (.ref b209), .val (.ref b216), .val (.ref b227), .val (.ref b238), .val (.ref b249), .val (.ref b260), .val (.ref b271), .val (.ref b282), .unset, .unset, .unset, .unset, .unset, .unset] [(.int 8), (.int 0), (.ref b293), (.ref b293)])) (fun target kt => ?_) ?_
    · refine XS.dup X293.here hx rfl (hb hby at_144) rfl rfl ?_
      show Steps p.tables e below (T293.setTop (mkF m 145 _ [(.ref b293), (.ref b293)])) target
      refine XS.iconst X293.here hx rfl (hb hby at_145) ?_
      show Steps p.tables e below (T293.setTop (mkF m 146 _ [(.int 0), (.ref b293), (.ref b293)])) target
      refine XS.bipush X293.here hx rfl (hb hby at_146) ?_
      exact kt
    obtain ⟨cl300, Ar300, q300, S300, M300, H300, G300⟩ := id V299
    have hin300 : ¬ ((0 : Int32) < 0 ∨ cl300.slots.size ≤ ((0 : Int32)).toNatClampNeg) := inb_of S300 ⟨by decide, by decide⟩
    obtain ⟨T300, h300, X300, e300, W300, st300⟩ := stI X293 hx hZ e293 Ar300 (j := (0 : Int32)) hin300 (g := (mkF m 148 #[.val (.int p0), .val (.int p1), .val (.int p2), .val (.int p3), .val (.int p4), .val (.int t1), .val (.int t2), .val (.long k1), .second, .val (.long k2), .second, .val (.int 1), .val (.ref b209), .val (.ref b216), .val (.ref b227), .val (.ref b238), .val (.ref b249), .val (.ref b260), .val (.ref b271), .val (.ref b282), .unset, .unset, .unset, .unset, .unset, .unset] [(.int 8), (.int 0), (.ref b293), (.ref b293)])) rfl rfl (hb hby at_148)
    have V301 : Arv Z h300 b293 k293 .int (1 : Int32) [(.int 8)] (.int 0) := Arv.set Ar300 q300 S300 M300 H300 G300 rfl W300 0 rfl (Nat.le_of_ble_eq_true rfl)
    have K302 := K297.wr W300 (Or.inr sz295)
    have O303 := O298.wr W300 g296
    have N300 := Fr.snoc X300 N289 g296
    refine Go.st st300 ?_
    show Go _ _ _ _ _ _ _ (T300.setTop (mkF m 149 _ [(.ref b293)]))
    refine Go.st (t' := T300.setTop (mkF m 151 #[.val (.int p0), .val (.int p1), .val (.int p2), .val (.int p3), .val (.int p4), .val (.int t1), .val (.int t2), .val (.long k1), .second, .val (.long k2), .second, .val (.int 1), .val (.ref b209), .val (.ref b216), .val (.ref b227), .val (.ref b238), .val (.ref b249), .val (.ref b260), .val (.ref b271), .val (.ref b282), .val (.ref b293), .unset, .unset, .unset, .unset, .unset] [])) (fun target kt => ?_) ?_
    · refine XS.astore X300.here hx rfl (hb hby at_149) rfl rfl (l' := #[.val (.int p0), .val (.int p1), .val (.int p2), .val (.int p3), .val (.int p4), .val (.int t1), .val (.int t2), .val (.long k1), .second, .val (.long k2), .second, .val (.int 1), .val (.ref b209), .val (.ref b216), .val (.ref b227), .val (.ref b238), .val (.ref b249), .val (.ref b260), .val (.ref b271), .val (.ref b282), .val (.ref b293), .unset, .unset, .unset, .unset, .unset]) rfl ?_
      exact kt
    obtain ⟨T304, h304, X304, e304, E304, A304, D304, -, st304⟩ := newO X300 hx hZ hown (hw _ tw4) (hw _ tw5) (hw _ tw6) e300 (g := (mkF m 151 #[.val (.int p0), .val (.int p1), .val (.int p2), .val (.int p3), .val (.int p4), .val (.int t1), .val (.int t2), .val (.long k1), .second, .val (.long k2), .second, .val (.int 1), .val (.ref b209), .val (.ref b216), .val (.ref b227), .val (.ref b238), .val (.ref b249), .val (.ref b260), .val (.ref b271), .val (.ref b282), .val (.ref b293), .unset, .unset, .unset, .unset, .unset] [])) rfl (hb hby at_151) (by decide) (by decide)
    obtain ⟨b304, g304⟩ : ∃ z, z = h300.size := ⟨_, rfl⟩
    rw [← g304] at A304 D304 st304
    have lb305 : h300.size ≤ b304 := Nat.le_of_eq g304.symm
    have sz306 : h0.size ≤ b304 := Nat.le_trans K302.1 lb305
    have g307 : n0 ≤ b304 := Nat.le_trans Z0 sz306
    have K308 := K302.ext E304
    have O309 := O303.ext E304
    have F310 : Fld Z h304 b304 "com/example/docstride/docstride/search/words/CodePointTables" "blockOf" "[I" .null := D304 (Or.inr (hw _ tw14)) (ty := (.array .int)) (by decide)
    have F311 : Fld Z h304 b304 "com/example/docstride/docstride/search/words/CodePointTables" "blocks" "[I" .null := D304 (Or.inr (hw _ tw16)) (ty := (.array .int)) (by decide)
    have F312 : Fld Z h304 b304 "com/example/docstride/docstride/search/words/CodePointTables" "foldingStarts" "[I" .null := D304 (Or.inr (hw _ tw18)) (ty := (.array .int)) (by decide)
    have F313 : Fld Z h304 b304 "com/example/docstride/docstride/search/words/CodePointTables" "folded" "[I" .null := D304 (Or.inr (hw _ tw20)) (ty := (.array .int)) (by decide)
    have F314 : Fld Z h304 b304 "com/example/docstride/docstride/search/words/CodePointTables" "decomposed" "[I" .null := D304 (Or.inr (hw _ tw22)) (ty := (.array .int)) (by decide)
    have F315 : Fld Z h304 b304 "com/example/docstride/docstride/search/words/CodePointTables" "decompositionStarts" "[I" .null := D304 (Or.inr (hw _ tw24)) (ty := (.array .int)) (by decide)
    have F316 : Fld Z h304 b304 "com/example/docstride/docstride/search/words/CodePointTables" "decompositions" "[I" .null := D304 (Or.inr (hw _ tw26)) (ty := (.array .int)) (by decide)
    have F317 : Fld Z h304 b304 "com/example/docstride/docstride/search/words/CodePointTables" "pairs" "[J" .null := D304 (Or.inr (hw _ tw28)) (ty := (.array .long)) (by decide)
    have F318 : Fld Z h304 b304 "com/example/docstride/docstride/search/words/CodePointTables" "composites" "[I" .null := D304 (Or.inr (hw _ tw30)) (ty := (.array .int)) (by decide)
    refine Go.st st304 ?_
    show Go _ _ _ _ _ _ _ (T304.setTop (mkF m 154 _ [(.ref b304)]))
    refine Go.st (t' := T304.setTop (mkF m 173 #[.val (.int p0), .val (.int p1), .val (.int p2), .val (.int p3), .val (.int p4), .val (.int t1), .val (.int t2), .val (.long k1), .second, .val (.long k2), .second, .val (.int 1), .val (.ref b209), .val (.ref b216), .val (.ref b227), .val (.ref b238), .val (.ref b249), .val (.ref b260), .val (.ref b271), .val (.ref b282), .val (.ref b293), .unset, .unset, .unset, .unset, .unset] [(.ref b293), (.ref b209), (.ref b282), (.ref b271), (.ref b260), (.ref b249), (.ref b238), (.ref b227), (.ref b216), (.ref b304), (.ref b304)])) (fun target kt => ?_) ?_
    · refine XS.dup X304.here hx rfl (hb hby at_154) rfl rfl ?_
      show Steps p.tables e below (T304.setTop (mkF m 155 _ [(.ref b304), (.ref b304)])) target
      refine XS.aload X304.here hx rfl (hb hby at_155) rfl rfl ?_
      show Steps p.tables e below (T304.setTop (mkF m 157 _ [(.ref b216), (.ref b304), (.ref b304)])) target
      refine XS.aload X304.here hx rfl (hb hby at_157) rfl rfl ?_
      show Steps p.tables e below (T304.setTop (mkF m 159 _ [(.ref b227), (.ref b216), (.ref b304), (.ref b304)])) target
      refine XS.aload X304.here hx rfl (hb hby at_159) rfl rfl ?_
      show Steps p.tables e below (T304.setTop (mkF m 161 _ [(.ref b238), (.ref b227), (.ref b216), (.ref b304), (.ref b304)])) target
      refine XS.aload X304.here hx rfl (hb hby at_161) rfl rfl ?_
      show Steps p.tables e below (T304.setTop (mkF m 163 _ [(.ref b249), (.ref b238), (.ref b227), (.ref b216), (.ref b304), (.ref b304)])) target
      refine XS.aload X304.here hx rfl (hb hby at_163) rfl rfl ?_
      show Steps p.tables e below (T304.setTop (mkF m 165 _ [(.ref b260), (.ref b249), (.ref b238), (.ref b227), (.ref b216), (.ref b304), (.ref b304)])) target
      refine XS.aload X304.here hx rfl (hb hby at_165) rfl rfl ?_
      show Steps p.tables e below (T304.setTop (mkF m 167 _ [(.ref b271), (.ref b260), (.ref b249), (.ref b238), (.ref b227), (.ref b216), (.ref b304), (.ref b304)])) target
      refine XS.aload X304.here hx rfl (hb hby at_167) rfl rfl ?_
      show Steps p.tables e below (T304.setTop (mkF m 169 _ [(.ref b282), (.ref b271), (.ref b260), (.ref b249), (.ref b238), (.ref b227), (.ref b216), (.ref b304), (.ref b304)])) target
      refine XS.aload X304.here hx rfl (hb hby at_169) rfl rfl ?_
      show Steps p.tables e below (T304.setTop (mkF m 171 _ [(.ref b209), (.ref b282), (.ref b271), (.ref b260), (.ref b249), (.ref b238), (.ref b227), (.ref b216), (.ref b304), (.ref b304)])) target
      refine XS.aload X304.here hx rfl (hb hby at_171) rfl rfl ?_
      exact kt
    obtain ⟨_, _, ⟨T319, L319, k319, n319⟩, -, X319, ⟨Lc319, hQ319, l319, y319, z319⟩, st319⟩ := X304.specialBack hx (y := (⟨"com/example/docstride/docstride/search/words/CodePointTables", "<init>", "([I[I[I[I[I[I[I[J[I)V"⟩ : MethodName)) rfl hown (mvT hZ (hw _ tw7)) (mvT hZ (hw _ tw8)) (mvT hZ (hw _ tw9)) (by decide) (backOf (W := 1) (rm1 l Z a0 hw [] b304 b216 b227 b238 b249 b260 b271 b282 b209 b293 h304 n0 (Nat.le_trans Z0 K308.1) O309  A304 g307 F310 F311 F312 F313 F314 F315 F316 F317 F318) hZ (hw _ tw9) (hw _ tw6) (by decide) (by decide)) (g := (mkF m 173 #[.val (.int p0), .val (.int p1), .val (.int p2), .val (.int p3), .val (.int p4), .val (.int t1), .val (.int t2), .val (.long k1), .second, .val (.long k2), .second, .val (.int 1), .val (.ref b209), .val (.ref b216), .val (.ref b227), .val (.ref b238), .val (.ref b249), .val (.ref b260), .val (.ref b271), .val (.ref b282), .val (.ref b293), .unset, .unset, .unset, .unset, .unset] [(.ref b293), (.ref b209), (.ref b282), (.ref b271), (.ref b260), (.ref b249), (.ref b238), (.ref b227), (.ref b216), (.ref b304), (.ref b304)])) rfl (by rw [hml]; rfl) (Steps.refl _) (a := b304) (argsL := [(.ref b216), (.ref b227), (.ref b238), (.ref b249), (.ref b260), (.ref b271), (.ref b282), (.ref b209), (.ref b293)]) (rest := [(.ref b304)]) (lenOf pd0 rfl) rfl (by show 2 * 0 + _ ≤ _; exact Nat.le_of_eq rfl) (hb hby at_173) (fun _ _ => ⟨rfl, e304, (by decide : 10 + 0 ≤ _), (by decide : 17 + 0 ≤ _)⟩)
    dsimp only [Pt.U, Pt.locs, Pt.cells, Pt.slots] at X319 l319 y319 z319 st319 hQ319
    subst l319 y319 z319
    obtain ⟨rfl, Nq319, Kq319, q320, q321, q322, q323, q324, q325, q326, q327, q328, q329⟩ := hQ319
    have N319 := Fr.app N300 Nq319
    have K330 := K308.trans Kq319 (allS (Or.inr sz306) all0)
    have O331 := O309.keep Kq319 (allS g307 all0)
    refine Go.by st319 ?_
    show Go _ _ _ _ _ _ _ (T319.setTop (mkF m 176 _ [(.ref b304)]))
    refine Go.st (t' := T319.setTop (mkF m 180 #[.val (.int p0), .val (.int p1), .val (.int p2), .val (.int p3), .val (.int p4), .val (.int t1), .val (.int t2), .val (.long k1), .second, .val (.long k2), .second, .val (.int 1), .val (.ref b209), .val (.ref b216), .val (.ref b227), .val (.ref b238), .val (.ref b249), .val (.ref b260), .val (.ref b271), .val (.ref b282), .val (.ref b293), .val (.ref b304), .unset, .unset, .unset, .unset] [(.ref b304)])) (fun target kt => ?_) ?_
    · refine XS.astore X319.here hx rfl (hb hby at_176) rfl rfl (l' := #[.val (.int p0), .val (.int p1), .val (.int p2), .val (.int p3), .val (.int p4), .val (.int t1), .val (.int t2), .val (.long k1), .second, .val (.long k2), .second, .val (.int 1), .val (.ref b209), .val (.ref b216), .val (.ref b227), .val (.ref b238), .val (.ref b249), .val (.ref b260), .val (.ref b271), .val (.ref b282), .val (.ref b293), .val (.ref b304), .unset, .unset, .unset, .unset]) rfl ?_
      show Steps p.tables e below (T319.setTop (mkF m 178 _ [])) target
      refine XS.aload X319.here hx rfl (hb hby at_178) rfl rfl ?_
      exact kt
    have c332 := ((((((((((((((((B216.wr W223).ext E227).wr W234).ext E238).wr W245).ext E249).wr W256).ext E260).wr W267).ext E271).wr W278).ext E282).wr W289).ext E293).wr W300).ext E304).keep Kq319
    have c333 := ((((((((((((((B227.wr W234).ext E238).wr W245).ext E249).wr W256).ext E260).wr W267).ext E271).wr W278).ext E282).wr W289).ext E293).wr W300).ext E304).keep Kq319
    have c334 := ((((((((((((B238.wr W245).ext E249).wr W256).ext E260).wr W267).ext E271).wr W278).ext E282).wr W289).ext E293).wr W300).ext E304).keep Kq319
    have c335 := ((((((((((B249.wr W256).ext E260).wr W267).ext E271).wr W278).ext E282).wr W289).ext E293).wr W300).ext E304).keep Kq319
    have c336 := ((((((((B260.wr W267).ext E271).wr W278).ext E282).wr W289).ext E293).wr W300).ext E304).keep Kq319
    have c337 := ((((((B271.wr W278).ext E282).wr W289).ext E293).wr W300).ext E304).keep Kq319
    have c338 := ((((B282.wr W289).ext E293).wr W300).ext E304).keep Kq319
    have c339 := ((B293.wr W300).ext E304).keep Kq319
    have o340 : b209 < b216 := Nat.lt_of_lt_of_le V215.lt lb217
    have ne341 : b209 ≠ b216 := Nat.ne_of_lt o340
    have o342 : b216 < b227 := Nat.lt_of_lt_of_le V222.lt (Nat.le_trans (Keep.of_wr W223).1 lb228)
    have o343 : b209 < b227 := Nat.lt_trans o340 o342
    have ne344 : b209 ≠ b227 := Nat.ne_of_lt o343
    have o345 : b227 < b238 := Nat.lt_of_lt_of_le V233.lt (Nat.le_trans (Keep.of_wr W234).1 lb239)
    have o346 : b209 < b238 := Nat.lt_trans o343 o345
    have ne347 : b209 ≠ b238 := Nat.ne_of_lt o346
    have o348 : b238 < b249 := Nat.lt_of_lt_of_le V244.lt (Nat.le_trans (Keep.of_wr W245).1 lb250)
    have o349 : b209 < b249 := Nat.lt_trans o346 o348
    have ne350 : b209 ≠ b249 := Nat.ne_of_lt o349
    have o351 : b249 < b260 := Nat.lt_of_lt_of_le V255.lt (Nat.le_trans (Keep.of_wr W256).1 lb261)
    have o352 : b209 < b260 := Nat.lt_trans o349 o351
    have ne353 : b209 ≠ b260 := Nat.ne_of_lt o352
    have o354 : b260 < b271 := Nat.lt_of_lt_of_le V266.lt (Nat.le_trans (Keep.of_wr W267).1 lb272)
    have o355 : b209 < b271 := Nat.lt_trans o352 o354
    have ne356 : b209 ≠ b271 := Nat.ne_of_lt o355
    have o357 : b271 < b282 := Nat.lt_of_lt_of_le V277.lt (Nat.le_trans (Keep.of_wr W278).1 lb283)
    have o358 : b209 < b282 := Nat.lt_trans o355 o357
    have ne359 : b209 ≠ b282 := Nat.ne_of_lt o358
    have o360 : b282 < b293 := Nat.lt_of_lt_of_le V288.lt (Nat.le_trans (Keep.of_wr W289).1 lb294)
    have o361 : b209 < b293 := Nat.lt_trans o358 o360
    have ne362 : b209 ≠ b293 := Nat.ne_of_lt o361
    have o363 : b293 < b304 := Nat.lt_of_lt_of_le V299.lt (Nat.le_trans (Keep.of_wr W300).1 lb305)
    have o364 : b209 < b304 := Nat.lt_trans o361 o363
    have ne365 : b209 ≠ b304 := Nat.ne_of_lt o364
    have c366 := (((((((((((((((((V215.ext E216).other W223 ne341).ext E227).other W234 ne344).ext E238).other W245 ne347).ext E249).other W256 ne350).ext E260).other W267 ne353).ext E271).other W278 ne356).ext E282).other W289 ne359).ext E293).other W300 ne362).ext E304).keep Kq319 (ninS ne365 nin0)
    obtain ⟨cq367, kq367, q367a, q367b, q367c⟩ := isOf hZ rfl q320
    obtain ⟨_, _, ⟨T367, L367, k367, n367⟩, -, X367, ⟨Lc367, hQ367, l367, y367, z367⟩, st367⟩ := X319.virtualBack hx (y := (⟨"com/example/docstride/docstride/search/words/CodePointTables", "arrays", "()[[I"⟩ : MethodName)) (z := (⟨"com/example/docstride/docstride/search/words/CodePointTables", "arrays", "()[[I"⟩ : MethodName)) hown (mvT hZ (hw _ tw31)) (mvT hZ (hw _ tw32)) (notFace_of_selects (args := #[]) (mvT hZ (hw _ tw34))) (mvT hZ (hw _ tw34)) (mvT hZ (hw _ tw33)) (by decide) (backOf (W := 0) (rm3_0 l Z a0 hw [] b304 b216 b227 b238 b249 b260 b271 b282 b209 b293 k209 T319.heap n0 (Nat.le_trans Z0 K330.1) O331  q320 q321 q322 q323 q324 q325 q326 q327 q328 q329 c332 c333 c334 c335 c336 c337 c338 c339 c366) hZ (hw _ tw35) (hw _ tw6) (by decide) (by decide)) q367a q367c (g := (mkF m 180 #[.val (.int p0), .val (.int p1), .val (.int p2), .val (.int p3), .val (.int p4), .val (.int t1), .val (.int t2), .val (.long k1), .second, .val (.long k2), .second, .val (.int 1), .val (.ref b209), .val (.ref b216), .val (.ref b227), .val (.ref b238), .val (.ref b249), .val (.ref b260), .val (.ref b271), .val (.ref b282), .val (.ref b293), .val (.ref b304), .unset, .unset, .unset, .unset] [(.ref b304)])) rfl (by rw [hml]; rfl) (Steps.refl _) (argsL := []) (rest := []) (lenOf pd1 rfl) rfl (by show 2 * 0 + _ ≤ _; exact Nat.le_of_eq rfl) (hb hby at_180) (fun _ _ => ⟨rfl, rfl, (by decide : 10 + 3 ≤ _), (by decide : 17 + 10 ≤ _)⟩)
    dsimp only [Pt.U, Pt.locs, Pt.cells, Pt.slots] at X367 l367 y367 z367 st367 hQ367
    subst l367 y367 z367
    obtain ⟨b368, b369, b370, k371, k372, k373, rfl, Nq367, Kq367, q374, q375, q376⟩ := hQ367
    have N367 := Fr.app N319 Nq367
    have K377 := K330.trans Kq367 all0
    have O378 := O331.keep Kq367 all0
    refine Go.by st367 ?_
    show Go _ _ _ _ _ _ _ (T367.setTop (mkF m 183 _ [(.ref b368)]))
    obtain ⟨cl379, Ar379, -, S379, M379, -, -⟩ := id q376
    obtain ⟨cl380, Ar380, -, S380, M380, H380, -⟩ := id q376
    have hin380 : ¬ ((0 : Int32) < 0 ∨ cl380.slots.size ≤ ((0 : Int32)).toNatClampNeg) := inb_of S380 ⟨by decide, by decide⟩
    have hat380 : cl380.slots[((0 : Int32)).toNatClampNeg]? = some (.ref b238) := H380.at hin380 rfl
    obtain ⟨cl381, Ar381, -, S381, M381, H381, -⟩ := id q376
    have hin381 : ¬ ((1 : Int32) < 0 ∨ cl381.slots.size ≤ ((1 : Int32)).toNatClampNeg) := inb_of S381 ⟨by decide, by decide⟩
    have hat381 : cl381.slots[((1 : Int32)).toNatClampNeg]? = some (.ref b260) := H381.at hin381 rfl
    obtain ⟨cl382, Ar382, -, S382, M382, H382, -⟩ := id q376
    have hin382 : ¬ ((2 : Int32) < 0 ∨ cl382.slots.size ≤ ((2 : Int32)).toNatClampNeg) := inb_of S382 ⟨by decide, by decide⟩
    have hat382 : cl382.slots[((2 : Int32)).toNatClampNeg]? = some (.ref b271) := H382.at hin382 rfl
    obtain ⟨cl383, Ar383, -, S383, M383, H383, -⟩ := id q376
    have hin383 : ¬ ((4 : Int32) < 0 ∨ cl383.slots.size ≤ ((4 : Int32)).toNatClampNeg) := inb_of S383 ⟨by decide, by decide⟩
    have hat383 : cl383.slots[((4 : Int32)).toNatClampNeg]? = some (.ref b216) := H383.at hin383 rfl
    obtain ⟨cl384, Ar384, -, S384, M384, H384, -⟩ := id q376
    have hin384 : ¬ ((5 : Int32) < 0 ∨ cl384.slots.size ≤ ((5 : Int32)).toNatClampNeg) := inb_of S384 ⟨by decide, by decide⟩
    have hat384 : cl384.slots[((5 : Int32)).toNatClampNeg]? = some (.ref b227) := H384.at hin384 rfl
    obtain ⟨cl385, Ar385, -, S385, M385, H385, -⟩ := id q376
    have hin385 : ¬ ((6 : Int32) < 0 ∨ cl385.slots.size ≤ ((6 : Int32)).toNatClampNeg) := inb_of S385 ⟨by decide, by decide⟩
    have hat385 : cl385.slots[((6 : Int32)).toNatClampNeg]? = some (.ref b249) := H385.at hin385 rfl
    obtain ⟨cl386, Ar386, -, S386, M386, H386, -⟩ := id q376
    have hin386 : ¬ ((7 : Int32) < 0 ∨ cl386.slots.size ≤ ((7 : Int32)).toNatClampNeg) := inb_of S386 ⟨by decide, by decide⟩
    have hat386 : cl386.slots[((7 : Int32)).toNatClampNeg]? = some (.ref b282) := H386.at hin386 rfl
    obtain ⟨cl387, Ar387, -, S387, M387, H387, -⟩ := id q376
    have hin387 : ¬ ((9 : Int32) < 0 ∨ cl387.slots.size ≤ ((9 : Int32)).toNatClampNeg) := inb_of S387 ⟨by decide, by decide⟩
    have hat387 : cl387.slots[((9 : Int32)).toNatClampNeg]? = some (.ref b293) := H387.at hin387 rfl
    obtain ⟨cl388, Ar388, -, S388, M388, H388, -⟩ := id q376
    have hin388 : ¬ ((3 : Int32) < 0 ∨ cl388.slots.size ≤ ((3 : Int32)).toNatClampNeg) := inb_of S388 ⟨by decide, by decide⟩
    have hat388 : cl388.slots[((3 : Int32)).toNatClampNeg]? = some (.ref b369) := H388.at hin388 rfl
    obtain ⟨cl389, Ar389, -, S389, M389, H389, -⟩ := id q376
    have hin389 : ¬ ((8 : Int32) < 0 ∨ cl389.slots.size ≤ ((8 : Int32)).toNatClampNeg) := inb_of S389 ⟨by decide, by decide⟩
    have hat389 : cl389.slots[((8 : Int32)).toNatClampNeg]? = some (.ref b370) := H389.at hin389 rfl
    obtain ⟨cl390, Ar390, -, S390, M390, -, -⟩ := id q374
    obtain ⟨cl391, Ar391, -, S391, M391, -, -⟩ := id q375
    refine Go.st (t' := T367.setTop (mkF m 336 #[.val (.int p0), .val (.int p1), .val (.int p2), .val (.int p3), .val (.int p4), .val (.int t1), .val (.int t2), .val (.long k1), .second, .val (.long k2), .second, .val (.int 1), .val (.ref b209), .val (.ref b216), .val (.ref b227), .val (.ref b238), .val (.ref b249), .val (.ref b260), .val (.ref b271), .val (.ref b282), .val (.ref b293), .val (.ref b304), .val (.ref b368), .val (.int 0), .val (.ref b369), .val (.ref b370)] [(.int 1)])) (fun target kt => ?_) ?_
    · refine XS.astore X367.here hx rfl (hb hby at_183) rfl rfl (l' := #[.val (.int p0), .val (.int p1), .val (.int p2), .val (.int p3), .val (.int p4), .val (.int t1), .val (.int t2), .val (.long k1), .second, .val (.long k2), .second, .val (.int 1), .val (.ref b209), .val (.ref b216), .val (.ref b227), .val (.ref b238), .val (.ref b249), .val (.ref b260), .val (.ref b271), .val (.ref b282), .val (.ref b293), .val (.ref b304), .val (.ref b368), .unset, .unset, .unset]) rfl ?_
      show Steps p.tables e below (T367.setTop (mkF m 185 _ [])) target
      refine XS.aload X367.here hx rfl (hb hby at_185) rfl rfl ?_
      show Steps p.tables e below (T367.setTop (mkF m 187 _ [(.ref b368)])) target
      refine XS.ifnullNo X367.here hx rfl (hb hby at_187) rfl ?_
      show Steps p.tables e below (T367.setTop (mkF m 190 _ [])) target
      refine XS.aload X367.here hx rfl (hb hby at_190) rfl rfl ?_
      show Steps p.tables e below (T367.setTop (mkF m 192 _ [(.ref b368)])) target
      refine X367.arraylength hx Ar379.1 (State.isArrayOf_alike hZ.alike Ar379.2.1) (g := (mkF m 192 #[.val (.int p0), .val (.int p1), .val (.int p2), .val (.int p3), .val (.int p4), .val (.int t1), .val (.int t2), .val (.long k1), .second, .val (.long k2), .second, .val (.int 1), .val (.ref b209), .val (.ref b216), .val (.ref b227), .val (.ref b238), .val (.ref b249), .val (.ref b260), .val (.ref b271), .val (.ref b282), .val (.ref b293), .val (.ref b304), .val (.ref b368), .unset, .unset, .unset] [(.ref b368)])) rfl rfl (hb hby at_192) _ ?_
      rw [len_of S379 M379]
      show Steps p.tables e below (T367.setTop (mkF m 193 _ [(.int 10)])) target
      refine XS.bipush X367.here hx rfl (hb hby at_193) ?_
      show Steps p.tables e below (T367.setTop (mkF m 195 _ [(.int 10), (.int 10)])) target
      refine XS.icmpYes X367.here hx rfl (pc0 := 195) (pc' := 200) rfl (hb hby at_195) rfl (teq (by decide : (10 : Int32) = (10 : Int32))).1 (by decide) (by decide) ?_
      show Steps p.tables e below (T367.setTop (mkF m 200 _ [])) target
      refine XS.aload X367.here hx rfl (hb hby at_200) rfl rfl ?_
      show Steps p.tables e below (T367.setTop (mkF m 202 _ [(.ref b368)])) target
      refine XS.iconst X367.here hx rfl (hb hby at_202) ?_
      show Steps p.tables e below (T367.setTop (mkF m 203 _ [(.int 0), (.ref b368)])) target
      refine X367.aaload hx (j := (0 : Int32)) (v := (.ref b238)) Ar380.1 (State.isArrayOf_alike hZ.alike Ar380.2.1) rfl Ar380.2.2 hin380 hat380 (g := (mkF m 203 #[.val (.int p0), .val (.int p1), .val (.int p2), .val (.int p3), .val (.int p4), .val (.int t1), .val (.int t2), .val (.long k1), .second, .val (.long k2), .second, .val (.int 1), .val (.ref b209), .val (.ref b216), .val (.ref b227), .val (.ref b238), .val (.ref b249), .val (.ref b260), .val (.ref b271), .val (.ref b282), .val (.ref b293), .val (.ref b304), .val (.ref b368), .unset, .unset, .unset] [(.int 0), (.ref b368)])) rfl rfl (hb hby at_203) _ ?_
      show Steps p.tables e below (T367.setTop (mkF m 204 _ [(.ref b238)])) target
      refine XS.aload X367.here hx rfl (hb hby at_204) rfl rfl ?_
      show Steps p.tables e below (T367.setTop (mkF m 206 _ [(.ref b238), (.ref b238)])) target
      refine Jvm.RoadKit.acmp (g := (mkF m 206 #[.val (.int p0), .val (.int p1), .val (.int p2), .val (.int p3), .val (.int p4), .val (.int t1), .val (.int t2), .val (.long k1), .second, .val (.long k2), .second, .val (.int 1), .val (.ref b209), .val (.ref b216), .val (.ref b227), .val (.ref b238), .val (.ref b249), .val (.ref b260), .val (.ref b271), .val (.ref b282), .val (.ref b293), .val (.ref b304), .val (.ref b368), .unset, .unset, .unset] [(.ref b238), (.ref b238)])) X367 hx rfl rfl rfl (pc0 := 206) (pc' := 209) (same := true) rfl (hb hby at_206) rfl (decide_eq_true rfl) (by decide) (by decide) ?_
      show Steps p.tables e below (T367.setTop (mkF m 209 _ [])) target
      refine XS.aload X367.here hx rfl (hb hby at_209) rfl rfl ?_
      show Steps p.tables e below (T367.setTop (mkF m 211 _ [(.ref b368)])) target
      refine XS.iconst X367.here hx rfl (hb hby at_211) ?_
      show Steps p.tables e below (T367.setTop (mkF m 212 _ [(.int 1), (.ref b368)])) target
      refine X367.aaload hx (j := (1 : Int32)) (v := (.ref b260)) Ar381.1 (State.isArrayOf_alike hZ.alike Ar381.2.1) rfl Ar381.2.2 hin381 hat381 (g := (mkF m 212 #[.val (.int p0), .val (.int p1), .val (.int p2), .val (.int p3), .val (.int p4), .val (.int t1), .val (.int t2), .val (.long k1), .second, .val (.long k2), .second, .val (.int 1), .val (.ref b209), .val (.ref b216), .val (.ref b227), .val (.ref b238), .val (.ref b249), .val (.ref b260), .val (.ref b271), .val (.ref b282), .val (.ref b293), .val (.ref b304), .val (.ref b368), .unset, .unset, .unset] [(.int 1), (.ref b368)])) rfl rfl (hb hby at_212) _ ?_
      show Steps p.tables e below (T367.setTop (mkF m 213 _ [(.ref b260)])) target
      refine XS.aload X367.here hx rfl (hb hby at_213) rfl rfl ?_
      show Steps p.tables e below (T367.setTop (mkF m 215 _ [(.ref b260), (.ref b260)])) target
      refine Jvm.RoadKit.acmp (g := (mkF m 215 #[.val (.int p0), .val (.int p1), .val (.int p2), .val (.int p3), .val (.int p4), .val (.int t1), .val (.int t2), .val (.long k1), .second, .val (.long k2), .second, .val (.int 1), .val (.ref b209), .val (.ref b216), .val (.ref b227), .val (.ref b238), .val (.ref b249), .val (.ref b260), .val (.ref b271), .val (.ref b282), .val (.ref b293), .val (.ref b304), .val (.ref b368), .unset, .unset, .unset] [(.ref b260), (.ref b260)])) X367 hx rfl rfl rfl (pc0 := 215) (pc' := 218) (same := true) rfl (hb hby at_215) rfl (decide_eq_true rfl) (by decide) (by decide) ?_
      show Steps p.tables e below (T367.setTop (mkF m 218 _ [])) target
      refine XS.aload X367.here hx rfl (hb hby at_218) rfl rfl ?_
      show Steps p.tables e below (T367.setTop (mkF m 220 _ [(.ref b368)])) target
      refine XS.iconst X367.here hx rfl (hb hby at_220) ?_
      show Steps p.tables e below (T367.setTop (mkF m 221 _ [(.int 2), (.ref b368)])) target
      refine X367.aaload hx (j := (2 : Int32)) (v := (.ref b271)) Ar382.1 (State.isArrayOf_alike hZ.alike Ar382.2.1) rfl Ar382.2.2 hin382 hat382 (g := (mkF m 221 #[.val (.int p0), .val (.int p1), .val (.int p2), .val (.int p3), .val (.int p4), .val (.int t1), .val (.int t2), .val (.long k1), .second, .val (.long k2), .second, .val (.int 1), .val (.ref b209), .val (.ref b216), .val (.ref b227), .val (.ref b238), .val (.ref b249), .val (.ref b260), .val (.ref b271), .val (.ref b282), .val (.ref b293), .val (.ref b304), .val (.ref b368), .unset, .unset, .unset] [(.int 2), (.ref b368)])) rfl rfl (hb hby at_221) _ ?_
      show Steps p.tables e below (T367.setTop (mkF m 222 _ [(.ref b271)])) target
      refine XS.aload X367.here hx rfl (hb hby at_222) rfl rfl ?_
      show Steps p.tables e below (T367.setTop (mkF m 224 _ [(.ref b271), (.ref b271)])) target
      refine Jvm.RoadKit.acmp (g := (mkF m 224 #[.val (.int p0), .val (.int p1), .val (.int p2), .val (.int p3), .val (.int p4), .val (.int t1), .val (.int t2), .val (.long k1), .second, .val (.long k2), .second, .val (.int 1), .val (.ref b209), .val (.ref b216), .val (.ref b227), .val (.ref b238), .val (.ref b249), .val (.ref b260), .val (.ref b271), .val (.ref b282), .val (.ref b293), .val (.ref b304), .val (.ref b368), .unset, .unset, .unset] [(.ref b271), (.ref b271)])) X367 hx rfl rfl rfl (pc0 := 224) (pc' := 227) (same := true) rfl (hb hby at_224) rfl (decide_eq_true rfl) (by decide) (by decide) ?_
      show Steps p.tables e below (T367.setTop (mkF m 227 _ [])) target
      refine XS.aload X367.here hx rfl (hb hby at_227) rfl rfl ?_
      show Steps p.tables e below (T367.setTop (mkF m 229 _ [(.ref b368)])) target
      refine XS.iconst X367.here hx rfl (hb hby at_229) ?_
      show Steps p.tables e below (T367.setTop (mkF m 230 _ [(.int 4), (.ref b368)])) target
      refine X367.aaload hx (j := (4 : Int32)) (v := (.ref b216)) Ar383.1 (State.isArrayOf_alike hZ.alike Ar383.2.1) rfl Ar383.2.2 hin383 hat383 (g := (mkF m 230 #[.val (.int p0), .val (.int p1), .val (.int p2), .val (.int p3), .val (.int p4), .val (.int t1), .val (.int t2), .val (.long k1), .second, .val (.long k2), .second, .val (.int 1), .val (.ref b209), .val (.ref b216), .val (.ref b227), .val (.ref b238), .val (.ref b249), .val (.ref b260), .val (.ref b271), .val (.ref b282), .val (.ref b293), .val (.ref b304), .val (.ref b368), .unset, .unset, .unset] [(.int 4), (.ref b368)])) rfl rfl (hb hby at_230) _ ?_
      show Steps p.tables e below (T367.setTop (mkF m 231 _ [(.ref b216)])) target
      refine XS.aload X367.here hx rfl (hb hby at_231) rfl rfl ?_
      show Steps p.tables e below (T367.setTop (mkF m 233 _ [(.ref b216), (.ref b216)])) target
      refine Jvm.RoadKit.acmp (g := (mkF m 233 #[.val (.int p0), .val (.int p1), .val (.int p2), .val (.int p3), .val (.int p4), .val (.int t1), .val (.int t2), .val (.long k1), .second, .val (.long k2), .second, .val (.int 1), .val (.ref b209), .val (.ref b216), .val (.ref b227), .val (.ref b238), .val (.ref b249), .val (.ref b260), .val (.ref b271), .val (.ref b282), .val (.ref b293), .val (.ref b304), .val (.ref b368), .unset, .unset, .unset] [(.ref b216), (.ref b216)])) X367 hx rfl rfl rfl (pc0 := 233) (pc' := 236) (same := true) rfl (hb hby at_233) rfl (decide_eq_true rfl) (by decide) (by decide) ?_
      show Steps p.tables e below (T367.setTop (mkF m 236 _ [])) target
      refine XS.aload X367.here hx rfl (hb hby at_236) rfl rfl ?_
      show Steps p.tables e below (T367.setTop (mkF m 238 _ [(.ref b368)])) target
      refine XS.iconst X367.here hx rfl (hb hby at_238) ?_
      show Steps p.tables e below (T367.setTop (mkF m 239 _ [(.int 5), (.ref b368)])) target
      refine X367.aaload hx (j := (5 : Int32)) (v := (.ref b227)) Ar384.1 (State.isArrayOf_alike hZ.alike Ar384.2.1) rfl Ar384.2.2 hin384 hat384 (g := (mkF m 239 #[.val (.int p0), .val (.int p1), .val (.int p2), .val (.int p3), .val (.int p4), .val (.int t1), .val (.int t2), .val (.long k1), .second, .val (.long k2), .second, .val (.int 1), .val (.ref b209), .val (.ref b216), .val (.ref b227), .val (.ref b238), .val (.ref b249), .val (.ref b260), .val (.ref b271), .val (.ref b282), .val (.ref b293), .val (.ref b304), .val (.ref b368), .unset, .unset, .unset] [(.int 5), (.ref b368)])) rfl rfl (hb hby at_239) _ ?_
      show Steps p.tables e below (T367.setTop (mkF m 240 _ [(.ref b227)])) target
      refine XS.aload X367.here hx rfl (hb hby at_240) rfl rfl ?_
      show Steps p.tables e below (T367.setTop (mkF m 242 _ [(.ref b227), (.ref b227)])) target
      refine Jvm.RoadKit.acmp (g := (mkF m 242 #[.val (.int p0), .val (.int p1), .val (.int p2), .val (.int p3), .val (.int p4), .val (.int t1), .val (.int t2), .val (.long k1), .second, .val (.long k2), .second, .val (.int 1), .val (.ref b209), .val (.ref b216), .val (.ref b227), .val (.ref b238), .val (.ref b249), .val (.ref b260), .val (.ref b271), .val (.ref b282), .val (.ref b293), .val (.ref b304), .val (.ref b368), .unset, .unset, .unset] [(.ref b227), (.ref b227)])) X367 hx rfl rfl rfl (pc0 := 242) (pc' := 245) (same := true) rfl (hb hby at_242) rfl (decide_eq_true rfl) (by decide) (by decide) ?_
      show Steps p.tables e below (T367.setTop (mkF m 245 _ [])) target
      refine XS.aload X367.here hx rfl (hb hby at_245) rfl rfl ?_
      show Steps p.tables e below (T367.setTop (mkF m 247 _ [(.ref b368)])) target
      refine XS.bipush X367.here hx rfl (hb hby at_247) ?_
      show Steps p.tables e below (T367.setTop (mkF m 249 _ [(.int 6), (.ref b368)])) target
      refine X367.aaload hx (j := (6 : Int32)) (v := (.ref b249)) Ar385.1 (State.isArrayOf_alike hZ.alike Ar385.2.1) rfl Ar385.2.2 hin385 hat385 (g := (mkF m 249 #[.val (.int p0), .val (.int p1), .val (.int p2), .val (.int p3), .val (.int p4), .val (.int t1), .val (.int t2), .val (.long k1), .second, .val (.long k2), .second, .val (.int 1), .val (.ref b209), .val (.ref b216), .val (.ref b227), .val (.ref b238), .val (.ref b249), .val (.ref b260), .val (.ref b271), .val (.ref b282), .val (.ref b293), .val (.ref b304), .val (.ref b368), .unset, .unset, .unset] [(.int 6), (.ref b368)])) rfl rfl (hb hby at_249) _ ?_
      show Steps p.tables e below (T367.setTop (mkF m 250 _ [(.ref b249)])) target
      refine XS.aload X367.here hx rfl (hb hby at_250) rfl rfl ?_
      show Steps p.tables e below (T367.setTop (mkF m 252 _ [(.ref b249), (.ref b249)])) target
      refine Jvm.RoadKit.acmp (g := (mkF m 252 #[.val (.int p0), .val (.int p1), .val (.int p2), .val (.int p3), .val (.int p4), .val (.int t1), .val (.int t2), .val (.long k1), .second, .val (.long k2), .second, .val (.int 1), .val (.ref b209), .val (.ref b216), .val (.ref b227), .val (.ref b238), .val (.ref b249), .val (.ref b260), .val (.ref b271), .val (.ref b282), .val (.ref b293), .val (.ref b304), .val (.ref b368), .unset, .unset, .unset] [(.ref b249), (.ref b249)])) X367 hx rfl rfl rfl (pc0 := 252) (pc' := 255) (same := true) rfl (hb hby at_252) rfl (decide_eq_true rfl) (by decide) (by decide) ?_
      show Steps p.tables e below (T367.setTop (mkF m 255 _ [])) target
      refine XS.aload X367.here hx rfl (hb hby at_255) rfl rfl ?_
      show Steps p.tables e below (T367.setTop (mkF m 257 _ [(.ref b368)])) target
      refine XS.bipush X367.here hx rfl (hb hby at_257) ?_
      show Steps p.tables e below (T367.setTop (mkF m 259 _ [(.int 7), (.ref b368)])) target
      refine X367.aaload hx (j := (7 : Int32)) (v := (.ref b282)) Ar386.1 (State.isArrayOf_alike hZ.alike Ar386.2.1) rfl Ar386.2.2 hin386 hat386 (g := (mkF m 259 #[.val (.int p0), .val (.int p1), .val (.int p2), .val (.int p3), .val (.int p4), .val (.int t1), .val (.int t2), .val (.long k1), .second, .val (.long k2), .second, .val (.int 1), .val (.ref b209), .val (.ref b216), .val (.ref b227), .val (.ref b238), .val (.ref b249), .val (.ref b260), .val (.ref b271), .val (.ref b282), .val (.ref b293), .val (.ref b304), .val (.ref b368), .unset, .unset, .unset] [(.int 7), (.ref b368)])) rfl rfl (hb hby at_259) _ ?_
      show Steps p.tables e below (T367.setTop (mkF m 260 _ [(.ref b282)])) target
      refine XS.aload X367.here hx rfl (hb hby at_260) rfl rfl ?_
      show Steps p.tables e below (T367.setTop (mkF m 262 _ [(.ref b282), (.ref b282)])) target
      refine Jvm.RoadKit.acmp (g := (mkF m 262 #[.val (.int p0), .val (.int p1), .val (.int p2), .val (.int p3), .val (.int p4), .val (.int t1), .val (.int t2), .val (.long k1), .second, .val (.long k2), .second, .val (.int 1), .val (.ref b209), .val (.ref b216), .val (.ref b227), .val (.ref b238), .val (.ref b249), .val (.ref b260), .val (.ref b271), .val (.ref b282), .val (.ref b293), .val (.ref b304), .val (.ref b368), .unset, .unset, .unset] [(.ref b282), (.ref b282)])) X367 hx rfl rfl rfl (pc0 := 262) (pc' := 265) (same := true) rfl (hb hby at_262) rfl (decide_eq_true rfl) (by decide) (by decide) ?_
      show Steps p.tables e below (T367.setTop (mkF m 265 _ [])) target
      refine XS.aload X367.here hx rfl (hb hby at_265) rfl rfl ?_
      show Steps p.tables e below (T367.setTop (mkF m 267 _ [(.ref b368)])) target
      refine XS.bipush X367.here hx rfl (hb hby at_267) ?_
      show Steps p.tables e below (T367.setTop (mkF m 269 _ [(.int 9), (.ref b368)])) target
      refine X367.aaload hx (j := (9 : Int32)) (v := (.ref b293)) Ar387.1 (State.isArrayOf_alike hZ.alike Ar387.2.1) rfl Ar387.2.2 hin387 hat387 (g := (mkF m 269 #[.val (.int p0), .val (.int p1), .val (.int p2), .val (.int p3), .val (.int p4), .val (.int t1), .val (.int t2), .val (.long k1), .second, .val (.long k2), .second, .val (.int 1), .val (.ref b209), .val (.ref b216), .val (.ref b227), .val (.ref b238), .val (.ref b249), .val (.ref b260), .val (.ref b271), .val (.ref b282), .val (.ref b293), .val (.ref b304), .val (.ref b368), .unset, .unset, .unset] [(.int 9), (.ref b368)])) rfl rfl (hb hby at_269) _ ?_
      show Steps p.tables e below (T367.setTop (mkF m 270 _ [(.ref b293)])) target
      refine XS.aload X367.here hx rfl (hb hby at_270) rfl rfl ?_
      show Steps p.tables e below (T367.setTop (mkF m 272 _ [(.ref b293), (.ref b293)])) target
      refine Jvm.RoadKit.acmp (g := (mkF m 272 #[.val (.int p0), .val (.int p1), .val (.int p2), .val (.int p3), .val (.int p4), .val (.int t1), .val (.int t2), .val (.long k1), .second, .val (.long k2), .second, .val (.int 1), .val (.ref b209), .val (.ref b216), .val (.ref b227), .val (.ref b238), .val (.ref b249), .val (.ref b260), .val (.ref b271), .val (.ref b282), .val (.ref b293), .val (.ref b304), .val (.ref b368), .unset, .unset, .unset] [(.ref b293), (.ref b293)])) X367 hx rfl rfl rfl (pc0 := 272) (pc' := 277) (same := true) rfl (hb hby at_272) rfl (decide_eq_true rfl) (by decide) (by decide) ?_
      show Steps p.tables e below (T367.setTop (mkF m 277 _ [])) target
      refine XS.iload X367.here hx rfl (hb hby at_277) rfl ?_
      show Steps p.tables e below (T367.setTop (mkF m 279 _ [(.int 1)])) target
      refine XS.ifNo X367.here hx rfl (hb hby at_279) rfl ((if0 _ _).trans (feq (by decide : ¬ ((1 : Int32) = (0 : Int32)))).1) ?_
      show Steps p.tables e below (T367.setTop (mkF m 282 _ [])) target
      refine XS.iconst X367.here hx rfl (hb hby at_282) ?_
      show Steps p.tables e below (T367.setTop (mkF m 283 _ [(.int 0)])) target
      refine XS.goto X367.here hx rfl (pc0 := 283) (pc' := 287) rfl (hb hby at_283) (by decide) (by decide) ?_
      show Steps p.tables e below (T367.setTop (mkF m 287 _ [(.int 0)])) target
      refine XS.istore X367.here hx rfl (hb hby at_287) rfl (l' := #[.val (.int p0), .val (.int p1), .val (.int p2), .val (.int p3), .val (.int p4), .val (.int t1), .val (.int t2), .val (.long k1), .second, .val (.long k2), .second, .val (.int 1), .val (.ref b209), .val (.ref b216), .val (.ref b227), .val (.ref b238), .val (.ref b249), .val (.ref b260), .val (.ref b271), .val (.ref b282), .val (.ref b293), .val (.ref b304), .val (.ref b368), .val (.int 0), .unset, .unset]) rfl ?_
      show Steps p.tables e below (T367.setTop (mkF m 289 _ [])) target
      refine XS.aload X367.here hx rfl (hb hby at_289) rfl rfl ?_
      show Steps p.tables e below (T367.setTop (mkF m 291 _ [(.ref b368)])) target
      refine XS.iconst X367.here hx rfl (hb hby at_291) ?_
      show Steps p.tables e below (T367.setTop (mkF m 292 _ [(.int 3), (.ref b368)])) target
      refine X367.aaload hx (j := (3 : Int32)) (v := (.ref b369)) Ar388.1 (State.isArrayOf_alike hZ.alike Ar388.2.1) rfl Ar388.2.2 hin388 hat388 (g := (mkF m 292 #[.val (.int p0), .val (.int p1), .val (.int p2), .val (.int p3), .val (.int p4), .val (.int t1), .val (.int t2), .val (.long k1), .second, .val (.long k2), .second, .val (.int 1), .val (.ref b209), .val (.ref b216), .val (.ref b227), .val (.ref b238), .val (.ref b249), .val (.ref b260), .val (.ref b271), .val (.ref b282), .val (.ref b293), .val (.ref b304), .val (.ref b368), .val (.int 0), .unset, .unset] [(.int 3), (.ref b368)])) rfl rfl (hb hby at_292) _ ?_
      show Steps p.tables e below (T367.setTop (mkF m 293 _ [(.ref b369)])) target
      refine XS.astore X367.here hx rfl (hb hby at_293) rfl rfl (l' := #[.val (.int p0), .val (.int p1), .val (.int p2), .val (.int p3), .val (.int p4), .val (.int t1), .val (.int t2), .val (.long k1), .second, .val (.long k2), .second, .val (.int 1), .val (.ref b209), .val (.ref b216), .val (.ref b227), .val (.ref b238), .val (.ref b249), .val (.ref b260), .val (.ref b271), .val (.ref b282), .val (.ref b293), .val (.ref b304), .val (.ref b368), .val (.int 0), .val (.ref b369), .unset]) rfl ?_
      show Steps p.tables e below (T367.setTop (mkF m 295 _ [])) target
      refine XS.aload X367.here hx rfl (hb hby at_295) rfl rfl ?_
      show Steps p.tables e below (T367.setTop (mkF m 297 _ [(.ref b368)])) target
      refine XS.bipush X367.here hx rfl (hb hby at_297) ?_
      show Steps p.tables e below (T367.setTop (mkF m 299 _ [(.int 8), (.ref b368)])) target
      refine X367.aaload hx (j := (8 : Int32)) (v := (.ref b370)) Ar389.1 (State.isArrayOf_alike hZ.alike Ar389.2.1) rfl Ar389.2.2 hin389 hat389 (g := (mkF m 299 #[.val (.int p0), .val (.int p1), .val (.int p2), .val (.int p3), .val (.int p4), .val (.int t1), .val (.int t2), .val (.long k1), .second, .val (.long k2), .second, .val (.int 1), .val (.ref b209), .val (.ref b216), .val (.ref b227), .val (.ref b238), .val (.ref b249), .val (.ref b260), .val (.ref b271), .val (.ref b282), .val (.ref b293), .val (.ref b304), .val (.ref b368), .val (.int 0), .val (.ref b369), .unset] [(.int 8), (.ref b368)])) rfl rfl (hb hby at_299) _ ?_
      show Steps p.tables e below (T367.setTop (mkF m 300 _ [(.ref b370)])) target
      refine XS.astore X367.here hx rfl (hb hby at_300) rfl rfl (l' := #[.val (.int p0), .val (.int p1), .val (.int p2), .val (.int p3), .val (.int p4), .val (.int t1), .val (.int t2), .val (.long k1), .second, .val (.long k2), .second, .val (.int 1), .val (.ref b209), .val (.ref b216), .val (.ref b227), .val (.ref b238), .val (.ref b249), .val (.ref b260), .val (.ref b271), .val (.ref b282), .val (.ref b293), .val (.ref b304), .val (.ref b368), .val (.int 0), .val (.ref b369), .val (.ref b370)]) rfl ?_
      show Steps p.tables e below (T367.setTop (mkF m 302 _ [])) target
      refine XS.aload X367.here hx rfl (hb hby at_302) rfl rfl ?_
      show Steps p.tables e below (T367.setTop (mkF m 304 _ [(.ref b369)])) target
      refine XS.ifnullNo X367.here hx rfl (hb hby at_304) rfl ?_
      show Steps p.tables e below (T367.setTop (mkF m 307 _ [])) target
      refine XS.aload X367.here hx rfl (hb hby at_307) rfl rfl ?_
      show Steps p.tables e below (T367.setTop (mkF m 309 _ [(.ref b370)])) target
      refine XS.ifnullNo X367.here hx rfl (hb hby at_309) rfl ?_
      show Steps p.tables e below (T367.setTop (mkF m 312 _ [])) target
      refine XS.aload X367.here hx rfl (hb hby at_312) rfl rfl ?_
      show Steps p.tables e below (T367.setTop (mkF m 314 _ [(.ref b369)])) target
      refine X367.arraylength hx Ar390.1 (State.isArrayOf_alike hZ.alike Ar390.2.1) (g := (mkF m 314 #[.val (.int p0), .val (.int p1), .val (.int p2), .val (.int p3), .val (.int p4), .val (.int t1), .val (.int t2), .val (.long k1), .second, .val (.long k2), .second, .val (.int 1), .val (.ref b209), .val (.ref b216), .val (.ref b227), .val (.ref b238), .val (.ref b249), .val (.ref b260), .val (.ref b271), .val (.ref b282), .val (.ref b293), .val (.ref b304), .val (.ref b368), .val (.int 0), .val (.ref b369), .val (.ref b370)] [(.ref b369)])) rfl rfl (hb hby at_314) _ ?_
      rw [len_of S390 M390]
      show Steps p.tables e below (T367.setTop (mkF m 315 _ [(.int 0)])) target
      refine XS.iload X367.here hx rfl (hb hby at_315) rfl ?_
      show Steps p.tables e below (T367.setTop (mkF m 317 _ [(.int 0), (.int 0)])) target
      refine XS.icmpNo X367.here hx rfl (hb hby at_317) rfl (teq (by decide : (0 : Int32) = (0 : Int32))).2 ?_
      show Steps p.tables e below (T367.setTop (mkF m 320 _ [])) target
      refine XS.aload X367.here hx rfl (hb hby at_320) rfl rfl ?_
      show Steps p.tables e below (T367.setTop (mkF m 322 _ [(.ref b370)])) target
      refine X367.arraylength hx Ar391.1 (State.isArrayOf_alike hZ.alike Ar391.2.1) (g := (mkF m 322 #[.val (.int p0), .val (.int p1), .val (.int p2), .val (.int p3), .val (.int p4), .val (.int t1), .val (.int t2), .val (.long k1), .second, .val (.long k2), .second, .val (.int 1), .val (.ref b209), .val (.ref b216), .val (.ref b227), .val (.ref b238), .val (.ref b249), .val (.ref b260), .val (.ref b271), .val (.ref b282), .val (.ref b293), .val (.ref b304), .val (.ref b368), .val (.int 0), .val (.ref b369), .val (.ref b370)] [(.ref b370)])) rfl rfl (hb hby at_322) _ ?_
      rw [len_of S391 M391]
      show Steps p.tables e below (T367.setTop (mkF m 323 _ [(.int 0)])) target
      refine XS.iload X367.here hx rfl (hb hby at_323) rfl ?_
      show Steps p.tables e below (T367.setTop (mkF m 325 _ [(.int 0), (.int 0)])) target
      refine XS.icmpYes X367.here hx rfl (pc0 := 325) (pc' := 330) rfl (hb hby at_325) rfl (teq (by decide : (0 : Int32) = (0 : Int32))).1 (by decide) (by decide) ?_
      show Steps p.tables e below (T367.setTop (mkF m 330 _ [])) target
      refine XS.iload X367.here hx rfl (hb hby at_330) rfl ?_
      show Steps p.tables e below (T367.setTop (mkF m 332 _ [(.int 1)])) target
      refine XS.ifNo X367.here hx rfl (hb hby at_332) rfl ((if0 _ _).trans (feq (by decide : ¬ ((1 : Int32) = (0 : Int32)))).1) ?_
      show Steps p.tables e below (T367.setTop (mkF m 335 _ [])) target
      refine XS.iconst X367.here hx rfl (hb hby at_335) ?_
      exact kt
    refine Go.ret X367 (v := some (.int 1)) (fun h => by rw [hret] at h; cases h) hlk (fun fs hr => retN X367 hx (t := .boolean) hret (by simp) (hb hby at_336) hr) ?_ (by decide) (by decide)
    show Q0 Z p0 p1 p2 p3 p4 h0 n0 _ T367.heap _
    exact ⟨rfl, N367, K377⟩
theorem comes_1 {Post : Tables → Env → Array Value → State → Outcome → State → Prop} (hpost : ∀ tb e args s v u, (limb_1_1.after args s (.returned v) u = true ∧ limb_1_2.after args s (.returned v) u = true ∧ True) → FrameEnd s (.returned v) u (Jvm.fieldLocs frame_1_writes args s ++ Jvm.arrayLocs frame_1_arrays args s ++ Jvm.staticLocs frame_1_statics s) 40 192 → Post tb e args s (.returned v) u) :
    ArmFor flags0 classFile x code maxLocals ret World_1 tables_1 room_1 Calls_1 rest_1 Pre_1 Post := by
  intro l hfl _ _ p e ha hc hk s m args below hf hA hF happ hP
  obtain ⟨hcalls, hrest, hpre⟩ := hP
  obtain ⟨-, -, -, hnamed, -, -, -, hat⟩ := (Spec.applies_iff hf).mp happ
  obtain ⟨hg, hn⟩ := and_e (Cond.before_iff.mp (show (Jvm.Cond.and given_1 narrow_1).before args s = true from hpre))
  obtain ⟨g1, g2⟩ := and_e hg
  obtain ⟨g3, g4⟩ := and_e g2
  obtain ⟨g5, g6⟩ := and_e g4
  obtain ⟨g7, g8⟩ := and_e g6
  obtain ⟨g9, g10⟩ := and_e g8
  obtain ⟨w0_, w1_, w2_, w3_, w4_, rfl⟩ : ∃ w0_ w1_ w2_ w3_ w4_ : Value, args = #[w0_, w1_, w2_, w3_, w4_] := by
    have hs : args.size = 5 := by simpa [Cond.value, given_1] using g1
    obtain ⟨L⟩ := args
    match L, hs with
    | [w0_, w1_, w2_, w3_, w4_], _ => exact ⟨w0_, w1_, w2_, w3_, w4_, rfl⟩
  have hw := fun d (hd : d ∈ tables_1) => atoms_spec (ws := Jvm.Cond.code x code maxLocals ret :: tables_1) hat d (List.mem_cons_of_mem _ hd)
  have hfit : Fit s := fun {y c} hc i hi => by
    obtain ⟨ha, rfl⟩ := Array.getElem?_eq_some_iff.mp hc
    have q := List.all_eq_true.mp ((Array.all_eq_true_iff_forall_mem.mp hF) _ (Array.getElem_mem ha)) i (List.mem_range.mpr hi)
    simpa [Array.getElem?_eq_getElem hi] using q
  obtain ⟨i0, ei0⟩ := is_v g3
  obtain rfl : w0_ = (.int i0) := Option.some.inj ei0
  obtain ⟨i1, ei1⟩ := is_v g5
  obtain rfl : w1_ = (.int i1) := Option.some.inj ei1
  obtain ⟨i2, ei2⟩ := is_v g7
  obtain rfl : w2_ = (.int i2) := Option.some.inj ei2
  obtain ⟨i3, ei3⟩ := is_v g9
  obtain rfl : w3_ = (.int i3) := Option.some.inj ei3
  obtain ⟨i4, ei4⟩ := is_v g10
  obtain rfl : w4_ = (.int i4) := Option.some.inj ei4
  obtain ⟨n, o, h1, h2, h3, _, L, rfl, ⟨rfl, N, -⟩, hq⟩ := rm0 l s _ hw tables_1 i0 i1 i2 i3 i4 s.heap s.heap.size (Nat.le_refl _) (Old.start s)  p e ha hc hk s m _ below hf ((Spec.applies_iff_loose hf).mp happ).1 ⟨rfl, State.Warmed39.refl s, rfl⟩ trivial
  refine ⟨n, _, h1, h2, h3, hpost _ _ _ _ _ _ ⟨Cond.after_iff.mpr rfl, Cond.after_iff.mpr (eq_i res_at (Term.int_eval (1)) rfl), trivial⟩ ⟨hq.1, hq.2.1, (hq.2.2.sift fun y hy => Or.inr (N y hy)).mono (by decide) (by decide)⟩⟩
theorem main_1_1 : Claimed_1_1 := comes_1 fun _ _ _ _ _ _ h hF => ⟨h.1, hF⟩
theorem main_1_2 : Claimed_1_2 := comes_1 fun _ _ _ _ _ _ h hF => ⟨h.2.1, hF⟩
end Jvm.Pilot.@@N@@
/-! witness -/
namespace Jvm.Pilot.@@N@@
open Jvm Jvm.ClassFile Sem Op Lib Jvm.Free Jvm.Stand Jvm.Pilot.@@N@@.Jvm.D
/-! MADE BY PROGRAM (witnessworld.py) out of the Statement's table words and the real class files: 12 classes; the members and pool entries that the words name. The judged class is class 1, her method 1. -/
namespace start1
open Jvm.ClassFile
def u (s : String) : CpInfo := .utf8 (stringToUtf16 s)
/-- a pool by its gaps: so many unusable entries, then the entry; so many at the end -/
def gap : Nat → List CpInfo → List CpInfo
  | 0, r => r
  | n + 1, r => .unusable :: gap n r
def poolList (es : List (Nat × CpInfo)) (last : Nat) : List CpInfo := es.foldr (fun e r => gap e.1 (e.2 :: r)) (gap last [])
def pool (es : List (Nat × CpInfo)) (last : Nat) : Array CpInfo := ⟨poolList es last⟩
def fileOf (pool : Array CpInfo) (this : Nat) (attrs : Array Attribute := #[]) (ms : Array MethodInfo := #[]) (fl : Nat := 33) (sup : Nat := 0) (ifs : Array Nat := #[]) (fds : Array FieldInfo := #[]) : ClassFile where
  minorVersion := 0
  majorVersion := 65
  constantPool := pool
  accessFlags := fl
  thisClass := this
  superClass := sup
  interfaces := ifs
  fields := fds
  methods := ms
  attributes := attrs
def plain (name : String) (sup : Option ClassId) : Class where
  name := name
  kind := .ordinary
  loader := none
  accessFlags := 33
  super := sup
  interfaces := #[]
  cf := none
  fields := #[]
  methods := #[]
  instanceTypes := #[]
  staticTypes := #[]
  resolved := #[]
  callSites := []
  init := .initialized
  statics := none
  mirror := none

def pool0 : Array CpInfo := pool [(5, u "<init>"), (0, u "()V"), (1, .class_ 10), (1, u "java/lang/Object")] 113

def k0c0 : Code := { maxStack := 0, maxLocals := 1, code := object_method_1_code, exceptionTable := #[], attributes := #[] }
def k0m0 : Method := { name := "<init>", desc := "()V", sig := { parameters := [], returnType := none }, accessFlags := 1, code := some k0c0 }
/-- java/lang/Object -/
def k0 : Class := { plain "java/lang/Object" none with
  accessFlags := 33
  interfaces := #[]
  cf := some (fileOf pool0 8 #[] #[{ accessFlags := 1, nameIndex := 5, descriptorIndex := 6, attributes := #[] }] 33 0 #[] #[])
  fields := #[]
  methods := #[k0m0]
  instanceTypes := #[]
  staticTypes := #[]
  resolved := Array.replicate 124 none
  statics := none }

def pool1 : Array CpInfo := pool [(2, .class_ 4), (1, u "java/lang/Object"), (0, u "<init>"), (0, u "()V"), (0, .integer 2097151), (0, .long 2097152), (1, .class_ 11), (0, u "com/example/docstride/docstride/search/words/CodePointTables"), (0, .methodref 10 13), (0, .nameAndType 5 14), (0, u "([I[I[I[I[I[I[I[J[I)V"), (0, .methodref 10 16), (0, .nameAndType 17 18), (0, u "arrays"), (0, u "()[[I"), (0, .class_ 20), (0, u "com/example/docstride/docstride/search/words/CodePointTablesArraysPinLaw"), (2, u "law"), (0, u "(IIIII)Z")] 9

def k1m0 : Method := { name := "<init>", desc := "()V", sig := { parameters := [], returnType := none }, accessFlags := 1, code := none }
def k1c1 : Code := { maxStack := 11, maxLocals := 26, code := code, exceptionTable := #[], attributes := #[] }
def k1m1 : Method := { name := "law", desc := "(IIIII)Z", sig := { parameters := [.int, .int, .int, .int, .int], returnType := some .boolean }, accessFlags := 9, code := some k1c1 }
/-- com/example/docstride/docstride/search/words/CodePointTablesArraysPinLaw -/
def k1 : Class := { plain "com/example/docstride/docstride/search/words/CodePointTablesArraysPinLaw" (some 0) with
  accessFlags := 49
  interfaces := #[]
  cf := some (fileOf pool1 19 #[] #[{ accessFlags := 1, nameIndex := 5, descriptorIndex := 6, attributes := #[] }, { accessFlags := 9, nameIndex := 23, descriptorIndex := 24, attributes := #[] }] 49 2 #[] #[])
  fields := #[]
  methods := #[k1m0, k1m1]
  instanceTypes := #[]
  staticTypes := #[]
  resolved := Array.replicate 34 none
  statics := none }

def pool2 : Array CpInfo := pool [(1, .class_ 2), (0, u "com/example/docstride/docstride/search/words/CodePointTables"), (0, .methodref 4 5), (0, .class_ 6), (0, .nameAndType 7 8), (0, u "java/lang/Object"), (0, u "<init>"), (0, u "()V"), (0, .fieldref 1 10), (0, .nameAndType 11 12), (0, u "blockOf"), (0, u "[I"), (0, .fieldref 1 14), (0, .nameAndType 15 12), (0, u "blocks"), (0, .fieldref 1 17), (0, .nameAndType 18 12), (0, u "foldingStarts"), (0, .fieldref 1 20), (0, .nameAndType 21 12), (0, u "folded"), (0, .fieldref 1 23), (0, .nameAndType 24 12), (0, u "decomposed"), (0, .fieldref 1 26), (0, .nameAndType 27 12), (0, u "decompositionStarts"), (0, .fieldref 1 29), (0, .nameAndType 30 12), (0, u "decompositions"), (0, .fieldref 1 32), (0, .nameAndType 33 34), (0, u "pairs"), (0, u "[J"), (0, .fieldref 1 36), (0, .nameAndType 37 12), (0, u "composites"), (20, u "([I[I[I[I[I[I[I[J[I)V"), (0, .long 2097151), (1, .class_ 12), (141, u "CLASSES"), (0, u "Ljava/lang/String;"), (3, u "LATIN1"), (2, u "ALL"), (2, u "FORMS"), (2, u "PART"), (0, u "INCREASING"), (0, u "I"), (1, u "PAIR_SHIFT"), (8, u "arrays"), (0, u "()[[I")] 34

def k2c0 : Code := { maxStack := 2, maxLocals := 10, code := prog_71_method_1_code, exceptionTable := #[], attributes := #[] }
def k2m0 : Method := { name := "<init>", desc := "([I[I[I[I[I[I[I[J[I)V", sig := { parameters := [(.array .int), (.array .int), (.array .int), (.array .int), (.array .int), (.array .int), (.array .int), (.array .long), (.array .int)], returnType := none }, accessFlags := 0, code := some k2c0 }
def k2c1 : Code := { maxStack := 6, maxLocals := 4, code := prog_71_method_6_code, exceptionTable := #[], attributes := #[] }
def k2m1 : Method := { name := "arrays", desc := "()[[I", sig := { parameters := [], returnType := some (.array (.array .int)) }, accessFlags := 0, code := some k2c1 }
/-- com/example/docstride/docstride/search/words/CodePointTables -/
def k2 : Class := { plain "com/example/docstride/docstride/search/words/CodePointTables" (some 0) with
  accessFlags := 48
  interfaces := #[]
  cf := some (fileOf pool2 1 #[] #[{ accessFlags := 0, nameIndex := 7, descriptorIndex := 58, attributes := #[] }, { accessFlags := 0, nameIndex := 230, descriptorIndex := 231, attributes := #[] }] 48 4 #[] #[{ accessFlags := 26, nameIndex := 203, descriptorIndex := 204, attributes := #[] }, { accessFlags := 24, nameIndex := 208, descriptorIndex := 204, attributes := #[] }, { accessFlags := 24, nameIndex := 211, descriptorIndex := 204, attributes := #[] }, { accessFlags := 24, nameIndex := 214, descriptorIndex := 204, attributes := #[] }, { accessFlags := 24, nameIndex := 217, descriptorIndex := 204, attributes := #[] }, { accessFlags := 24, nameIndex := 218, descriptorIndex := 219, attributes := #[] }, { accessFlags := 26, nameIndex := 221, descriptorIndex := 219, attributes := #[] }, { accessFlags := 16, nameIndex := 11, descriptorIndex := 12, attributes := #[] }, { accessFlags := 16, nameIndex := 15, descriptorIndex := 12, attributes := #[] }, { accessFlags := 16, nameIndex := 18, descriptorIndex := 12, attributes := #[] }, { accessFlags := 16, nameIndex := 21, descriptorIndex := 12, attributes := #[] }, { accessFlags := 16, nameIndex := 24, descriptorIndex := 12, attributes := #[] }, { accessFlags := 16, nameIndex := 27, descriptorIndex := 12, attributes := #[] }, { accessFlags := 16, nameIndex := 30, descriptorIndex := 12, attributes := #[] }, { accessFlags := 16, nameIndex := 33, descriptorIndex := 34, attributes := #[] }, { accessFlags := 16, nameIndex := 37, descriptorIndex := 12, attributes := #[] }])
  fields := #[{ name := "CLASSES", type := (.object "java/lang/String"), accessFlags := 26, slot := 0, constantValue := 0 }, { name := "LATIN1", type := (.object "java/lang/String"), accessFlags := 24, slot := 1, constantValue := 0 }, { name := "ALL", type := (.object "java/lang/String"), accessFlags := 24, slot := 2, constantValue := 0 }, { name := "FORMS", type := (.object "java/lang/String"), accessFlags := 24, slot := 3, constantValue := 0 }, { name := "PART", type := (.object "java/lang/String"), accessFlags := 24, slot := 4, constantValue := 0 }, { name := "INCREASING", type := .int, accessFlags := 24, slot := 5, constantValue := 0 }, { name := "PAIR_SHIFT", type := .int, accessFlags := 26, slot := 6, constantValue := 0 }, { name := "blockOf", type := (.array .int), accessFlags := 16, slot := 0, constantValue := 0 }, { name := "blocks", type := (.array .int), accessFlags := 16, slot := 1, constantValue := 0 }, { name := "foldingStarts", type := (.array .int), accessFlags := 16, slot := 2, constantValue := 0 }, { name := "folded", type := (.array .int), accessFlags := 16, slot := 3, constantValue := 0 }, { name := "decomposed", type := (.array .int), accessFlags := 16, slot := 4, constantValue := 0 }, { name := "decompositionStarts", type := (.array .int), accessFlags := 16, slot := 5, constantValue := 0 }, { name := "decompositions", type := (.array .int), accessFlags := 16, slot := 6, constantValue := 0 }, { name := "pairs", type := (.array .long), accessFlags := 16, slot := 7, constantValue := 0 }, { name := "composites", type := (.array .int), accessFlags := 16, slot := 8, constantValue := 0 }]
  methods := #[k2m0, k2m1]
  instanceTypes := #[(.array .int), (.array .int), (.array .int), (.array .int), (.array .int), (.array .int), (.array .int), (.array .long), (.array .int)]
  staticTypes := #[(.object "java/lang/String"), (.object "java/lang/String"), (.object "java/lang/String"), (.object "java/lang/String"), (.object "java/lang/String"), .int, .int]
  resolved := Array.replicate 266 none
  statics := none }

def pool3 : Array CpInfo := pool [(1, u "java/lang/Cloneable"), (0, .class_ 1), (0, u "java/lang/Object"), (0, .class_ 3)] 3

/-- java/lang/Cloneable -/
def k3 : Class := { plain "java/lang/Cloneable" (some 0) with
  accessFlags := 1537
  interfaces := #[]
  cf := some (fileOf pool3 2 #[] #[] 1537 4 #[] #[])
  fields := #[]
  methods := #[]
  instanceTypes := #[]
  staticTypes := #[]
  resolved := Array.replicate 8 none
  statics := none }

def pool4 : Array CpInfo := pool [(1, u "java/io/Serializable"), (0, .class_ 1), (0, u "java/lang/Object"), (0, .class_ 3)] 3

/-- java/io/Serializable -/
def k4 : Class := { plain "java/io/Serializable" (some 0) with
  accessFlags := 1537
  interfaces := #[]
  cf := some (fileOf pool4 2 #[] #[] 1537 4 #[] #[])
  fields := #[]
  methods := #[]
  instanceTypes := #[]
  staticTypes := #[]
  resolved := Array.replicate 8 none
  statics := none }

/-- the primitive byte -/
def k5 : Class := { plain "byte" none with kind := .primitive 'B', accessFlags := 0x411 }
/-- [B -/
def k6 : Class := { plain "[B" (some 0) with kind := .array 5 .byte, interfaces := #[3, 4], accessFlags := 1041 }

/-- the primitive int -/
def k7 : Class := { plain "int" none with kind := .primitive 'I', accessFlags := 0x411 }
/-- [I -/
def k8 : Class := { plain "[I" (some 0) with kind := .array 7 .int, interfaces := #[3, 4], accessFlags := 1041 }

/-- the primitive long -/
def k9 : Class := { plain "long" none with kind := .primitive 'J', accessFlags := 0x411 }
/-- [J -/
def k10 : Class := { plain "[J" (some 0) with kind := .array 9 .long, interfaces := #[3, 4], accessFlags := 1041 }

/-- [[I -/
def k11 : Class := { plain "[[I" (some 0) with kind := .array 8 (.array .int), interfaces := #[3, 4], accessFlags := 1041 }

def heap : Heap := #[]
def classes : Array Class := #[k0, k1, k2, k3, k4, k5, k6, k7, k8, k9, k10, k11]
def interned : List (Array UInt16 × Addr) := []
def slotsUsed : Nat := 0
def theMethod : MethodId := ⟨1, 1⟩
def args0 : Array Value := #[.int 5, .int 5, .int 5, .int 5, .int 5]
def aboutOver (below : List Frame) : State where
  vm := { classes := classes, interned := interned.toArray }
  heap := heap
  slotsUsed := slotsUsed
  threads := #[{ frames := .invoking theMethod args0 :: below }]
def below0 : List Frame := [.native { method := ⟨0, 0⟩, args := #[] }]
def about1 : State := aboutOver below0
def p0 : Program := .bare "" "" ""
def e0 : Env := launch0.env 0 0 0
theorem w_frames : about1.frames = Frame.invoking theMethod args0 :: below0 := rfl
set_option maxRecDepth 65536 in
theorem w_args : argsFit about1.vm theMethod args0 = true := by decide +kernel
set_option maxRecDepth 65536 in
theorem w_heap : heapFits about1 = true := by decide +kernel
set_option maxRecDepth 65536 in
theorem w_runnable : about1.curStatus? = some .runnable := by decide +kernel
set_option maxRecDepth 65536 in
theorem w_alone : about1.alone = true := by decide +kernel
set_option maxRecDepth 65536 in
theorem w_named : about1.methodNamed? x = some theMethod := by decide +kernel
set_option maxRecDepth 65536 in
theorem w_hears : about1.hears theMethod below0 = true := by decide +kernel
set_option maxRecDepth 65536 in
theorem w_ripe : about1.ripe theMethod args0 below0 = true := by decide +kernel
theorem w_running : about1.status = .running := rfl
set_option maxRecDepth 65536 in
theorem w_room : about1.hasRoom e0.platform room_1 = true :=
  launch0.hasRoom_least _ room_1 (by decide +kernel) (by decide +kernel) (by decide +kernel) (by decide +kernel) (by decide +kernel) (by decide +kernel)
theorem allAtoms_all (ts : List Jvm.Cond) (a : Array Jvm.Value) (st : Jvm.State) : (allAtoms ts).before a st = ts.all (fun c => c.before a st) := by
  induction ts with
  | nil => rfl
  | cons c t ih =>
    show (Jvm.Cond.and c (allAtoms t)).before a st = _
    rw [Jvm.Cond.before_and, ih, List.all_cons]
def words1 : List Jvm.Cond := Jvm.Cond.code x code maxLocals ret :: tables_1
/-- a 'code' word, met by the world's own term for the bytes: nothing is compared byte by byte -/
theorem code_word {y : MethodName} {bytes : ByteArray} {mx : Nat} {rt : Option FieldType} {a : Array Value} {s : State} {m : MethodId} {meth : Method} {c : Code} (h1 : s.methodNamed? y = some m) (h2 : s.vm.method? m = some meth) (h3 : meth.code = some c) (h4 : c.code = bytes)
    (h5 : (c.maxLocals == mx && c.exceptionTable.isEmpty && decide (c.maxStack ≤ mostOperands) && decide (meth.sig.returnType = rt) && !meth.locks && decide (parseMethodDescriptor y.desc = some meth.sig)) = true) : (Jvm.Cond.code y bytes mx rt).before a s = true := by
  simp only [Bool.and_eq_true, beq_iff_eq, Bool.not_eq_true', decide_eq_true_eq] at h5
  obtain ⟨⟨⟨⟨⟨g1, g2⟩, g3⟩, g4⟩, g5⟩, g6⟩ := h5
  simp [Cond.before, Cond.holds, Cond.value, h1, h2, h3, h4, g1, g2, g3, g4, g5, g6]
def isCode : Jvm.Cond → Bool
  | .code _ _ _ _ => true
  | _ => false
theorem all_split {L : List Jvm.Cond} {P : Jvm.Cond → Bool} (h1 : L.all (fun c => isCode c || P c) = true) (h2 : ∀ c ∈ L.filter isCode, P c = true) : L.all P = true := by
  refine List.all_eq_true.mpr fun c hc => ?_
  have h := List.all_eq_true.mp h1 c hc
  rcases Bool.eq_false_or_eq_true (isCode c) with hi | hi
  · exact h2 c (List.mem_filter.mpr ⟨hc, hi⟩)
  · simpa [hi] using h
set_option maxRecDepth 65536 in
theorem w_c0 : (Jvm.Cond.code x code maxLocals ret).before args0 about1 = true := code_word (m := ⟨1, 1⟩) (meth := k1m1) (c := k1c1) (by decide +kernel) rfl rfl rfl (by decide +kernel)
set_option maxRecDepth 65536 in
theorem w_c1 : (Jvm.Cond.code ({ cls := "com/example/docstride/docstride/search/words/CodePointTables", name := "<init>", desc := "([I[I[I[I[I[I[I[J[I)V" } : Jvm.MethodName) prog_71_method_1_code (10 : Nat) (Option.none : Option Jvm.ClassFile.FieldType)).before args0 about1 = true := code_word (m := ⟨2, 0⟩) (meth := k2m0) (c := k2c0) (by decide +kernel) rfl rfl rfl (by decide +kernel)
set_option maxRecDepth 65536 in
theorem w_c2 : (Jvm.Cond.code ({ cls := "java/lang/Object", name := "<init>", desc := "()V" } : Jvm.MethodName) object_method_1_code (1 : Nat) (Option.none : Option Jvm.ClassFile.FieldType)).before args0 about1 = true := code_word (m := ⟨0, 0⟩) (meth := k0m0) (c := k0c0) (by decide +kernel) rfl rfl rfl (by decide +kernel)
set_option maxRecDepth 65536 in
theorem w_c3 : (Jvm.Cond.code ({ cls := "com/example/docstride/docstride/search/words/CodePointTables", name := "arrays", desc := "()[[I" } : Jvm.MethodName) prog_71_method_6_code (4 : Nat) (Option.some (Jvm.ClassFile.FieldType.array (Jvm.ClassFile.FieldType.array Jvm.ClassFile.FieldType.int)))).before args0 about1 = true := code_word (m := ⟨2, 1⟩) (meth := k2m1) (c := k2c1) (by decide +kernel) rfl rfl rfl (by decide +kernel)
def codes1 : List Jvm.Cond := [Jvm.Cond.code x code maxLocals ret, Jvm.Cond.code ({ cls := "com/example/docstride/docstride/search/words/CodePointTables", name := "<init>", desc := "([I[I[I[I[I[I[I[J[I)V" } : Jvm.MethodName) prog_71_method_1_code (10 : Nat) (Option.none : Option Jvm.ClassFile.FieldType), Jvm.Cond.code ({ cls := "java/lang/Object", name := "<init>", desc := "()V" } : Jvm.MethodName) object_method_1_code (1 : Nat) (Option.none : Option Jvm.ClassFile.FieldType), Jvm.Cond.code ({ cls := "com/example/docstride/docstride/search/words/CodePointTables", name := "arrays", desc := "()[[I" } : Jvm.MethodName) prog_71_method_6_code (4 : Nat) (Option.some (Jvm.ClassFile.FieldType.array (Jvm.ClassFile.FieldType.array Jvm.ClassFile.FieldType.int)))]
set_option maxRecDepth 65536 in
theorem codes_eq : words1.filter isCode = codes1 := rfl
theorem w_codes : ∀ c ∈ words1.filter isCode, c.before args0 about1 = true := by
  rw [codes_eq]
  intro c hc
  simp only [codes1, List.mem_cons, List.not_mem_nil, or_false] at hc
  rcases hc with rfl | rfl | rfl | rfl
  · exact w_c0
  · exact w_c1
  · exact w_c2
  · exact w_c3
set_option maxRecDepth 65536 in
theorem w_t1 : (words1.take 24).all (fun c => isCode c || c.before args0 about1) = true := by decide +kernel
set_option maxRecDepth 65536 in
theorem w_t2 : (words1.drop 24).all (fun c => isCode c || c.before args0 about1) = true := by decide +kernel
theorem w_tables : (allAtoms (Jvm.Cond.code x code maxLocals ret :: tables_1)).before args0 about1 = true := by
  rw [allAtoms_all]
  show words1.all (fun c => c.before args0 about1) = true
  refine all_split ?_ w_codes
  rw [← List.take_append_drop 24 words1, List.all_append, w_t1, w_t2]
  rfl
set_option maxRecDepth 65536 in
theorem w_case : (Jvm.Cond.and given_1 narrow_1).before args0 about1 = true := by decide +kernel
theorem w_applies : (headSpec (Jvm.Cond.code x code maxLocals ret :: tables_1) room_1).applies x e0.platform about1 = true :=
  (Spec.applies_iff w_frames).mpr ⟨w_running, w_runnable, w_alone, w_named, w_hears, w_ripe, w_room, w_tables⟩
theorem atStart : AtStart classFile x code maxLocals ret World_1 tables_1 room_1 Calls_1 rest_1 Pre_1 launch0 p0 e0 about1 theMethod args0 below0 :=
  ⟨lists_1, trivial, launch0.admits_env _ _ _, launch0.least_env, fairChoices_fair.cas, fairChoices_fair.clock, w_frames, w_args, w_heap, w_applies, trivial, trivial, w_case⟩
end start1
theorem witness_1 : WitnessClaimed_1 := ⟨start1.p0, start1.e0, start1.about1, start1.theMethod, start1.args0, start1.below0, start1.atStart⟩
end Jvm.Pilot.@@N@@
